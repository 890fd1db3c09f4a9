import Derived.Test.Qxb6601690aTargets
import Derived.Maps.Own
import Derived.Maps.OwnOps
import Derived.Maps.OwnSet
import Derived.Maps.Views
namespace Go.Proofs.Qxb6601690a
open Go.RowKit Go.Maps Go.WideMaps

/-- An element that reads as a bool's datum IS that bool. -/
theorem plainElem_bool_inv {H : Type} {P : Program} {e : TypeId} (he : P.underlying e = some .bool) {v : Value} {z : DataW H × List MemPlace} (h : plainElem P e v = some z) : ∃ x, v = .bool x ∧ z = (.lit (.bool x), []) := by
  unfold plainElem at h
  rw [he] at h
  cases v <;> simp at h
  exact ⟨_, rfl, h.symm⟩

/-- 'm[k]' in a map[K]bool of the call's own. -/
theorem lookup_bool {H : Type} {P : Program} {k t e : TypeId} {w : World} {b n : Nat} {D : DataW H} (h : w.ownsMap P k (plainElem P e) b n D) (K : Keyed P k) (ht : P.underlying t = some (.map k e)) (he : P.underlying e = some .bool) (hz : (zeroValue e).run P w = .ok (.bool false) w)
    {key : Value} {kl : Lit} (hkey : keyOf P k key = some kl) : ∃ c, (Instr.lookup t (.map (some b)) key false).run P w = .ok (.bool c) w ∧ D.atKey kl (.lit (.bool false)) = .lit (.bool c) := by
  obtain ⟨v, ps, hrun, hv⟩ := h.lookup K ht hz (plainElem_bool he false) hkey
  obtain ⟨c, rfl, hc⟩ := plainElem_bool_inv he hv
  simp only [Prod.mk.injEq] at hc
  exact ⟨c, hrun, hc.1⟩

theorem zero4 (w : World) : (zeroValue 4).run Try.prog w = .ok (.bool false) w := by kernel_rfl
theorem law9 : Keyed Try.prog 9 := string_keyed Try.underlying9

theorem run_makeMap_hint (n : Int) (w : World) : (Instr.makeMap 42 (some (.int .i64 n))).run Try.prog w = .ok (.map (some w.heap.size)) (w.alloc (.map #[] 0)) := by
  simp [Instr.makeMap, run_underlying Try.underlying42, asInt, asIntOf, Result.andThen]

set_option maxHeartbeats 1000000 in
theorem disallowed_any (s : ByteArray) (aa oa : Option Addr) (an ac on oc : Nat) (g m c : Nat) (G : Nat → Value) (B : Nat) (da : Option Addr) (nd dc : Nat) (f : Nat → ByteArray) (w : World) (hm : m ≤ 281474976710656) (hn : nd ≤ 281474976710656)
    (hrow : ∀ i, i < m → w.cell? ⟨g, i * 2, none⟩ = some (G (i * 2)) ∧ w.cell? ⟨g, i * 2 + 1, none⟩ = some (G (i * 2 + 1)))
    (hT : ∀ i, i < m → Tgt B w (G (i * 2)) (G (i * 2 + 1)))
    (hd : 0 < nd → ∃ b off, da = some ⟨b, off, none⟩ ∧ ∀ j, j < nd → w.cell? ⟨b, off + j, none⟩ = some (.string (f j)))
    (hf : ∀ j, j < nd → (f j).size ≤ maxLen)
    (hnamed : ∀ j, j < nd → ∃ i b o, i < m ∧ G (i * 2) = .pointer (some ⟨b, o, none⟩) ∧ w.cell? ⟨b, o, none⟩ = some (.string (f j))) :
    Calls Try.prog 11 #[.agg #[.string s, .slice aa an ac, .slice oa on oc, .slice (some ⟨g, 0, none⟩) m c], .slice da nd dc] w fun e w' => e = .returned (.tuple #[.string ⟨#[]⟩, .bool false]) ∧ w.Since w.heap.size w' := by
  have hmm := run_makeMap_hint
  have q30 : ∀ (w : World) (a : Option Addr) (n c n' c' : Nat), (binOp .eql 30 (.slice a n c) (.slice none n' c')).run Try.prog w = .ok (.bool a.isNone) w := fun w a n c n' c' => Lib.run_eql_slice_nil w _ _ a n c n' c' Try.underlying30
  go_enter Try.func11, Try.ntmps11
  go_wp2
  clear hmm q30
  go_loopg [21] m (fun gg i wr => ∃ k : Nat, k ≤ m ∧ gg = m - k ∧ i = .int .i64 k ∧ (∃ D : DataW Unit, wr.ownsMap Try.prog 9 (plainElem Try.prog 4) (w.heap.size + 1) k D ∧ ∀ i b o t, i < k → G (i * 2) = .pointer (some ⟨b, o, none⟩) → w.cell? ⟨b, o, none⟩ = some (.string t) → D.atKey (.string t.data.toList) (.lit (.bool false)) = .lit (.bool true)) ∧ w.Since w.heap.size wr)
  case atStart =>
    refine ⟨0, Nat.zero_le _, rfl, rfl, ⟨.map [], ?_, fun i b o t hi => absurd hi (Nat.not_lt_zero _)⟩, ((World.Since.refl _ _).alloc (Nat.le_refl _) _).alloc (by simp) _⟩
    have := World.ownsMap_made (H := Unit) (w.alloc (.cells #[.string s, .slice aa an ac, .slice oa on oc, .slice (some ⟨g, 0, none⟩) m c] 32)) Try.prog 9 (plainElem Try.prog 4)
    simpa using this
  case round =>
    obtain ⟨k, hk, rfl, rfl, ⟨D, hown, hD⟩, hsi⟩ := hrel
    by_cases hlt : k < m
    · obtain ⟨⟨p, hu, hp⟩, sa, sn, sc, hv⟩ := hT k hlt
      have hgb : g < w.heap.size := World.block_lt_of_cell? _ _ (hrow k hlt).1
      have h1 : wr.cell? ⟨g, k * 2, none⟩ = some (.pointer p) := by rw [hsi.cell (a := ⟨g, k * 2, none⟩) hgb, (hrow k hlt).1, hu]
      have h2 : wr.cell? ⟨g, k * 2 + 1, none⟩ = some (.slice sa sn sc) := by rw [hsi.cell (a := ⟨g, k * 2 + 1, none⟩) hgb, (hrow k hlt).2, hv]
      rcases hp with rfl | ⟨pb, po, t, rfl, _, htm, hpt⟩
      · have R1 := hown.alloc (.cells #[.pointer none, .slice sa sn sc] 39)
        have R2 := hsi.alloc hsi.size (.cells #[.pointer none, .slice sa sn sc] 39)
        have HU : Hid (G (k * 2) = .pointer none) := hu
        clear hT hrow hd hf hnamed hu hv hown
        go_wp2
        go_roundg (m - (k + 1))
        case measure => go_light; omega
        case rel =>
          go_light
          refine ⟨k + 1, by omega, rfl, by go_num, ⟨D, R1.mono (by omega), fun i b o t hi hg ht => ?_⟩, R2⟩
          by_cases e : i = k
          · subst e; rw [HU.out] at hg; simp at hg
          · exact hD i b o t (by omega) hg ht
      · have hpb : pb < w.heap.size := World.block_lt_of_cell? _ _ hpt
        have h3 : wr.cell? ⟨pb, po, none⟩ = some (.string t) := by rw [hsi.cell (a := ⟨pb, po, none⟩) hpb]; exact hpt
        have h3' : ∀ o, (wr.alloc o).cell? ⟨pb, po, none⟩ = some (.string t) := fun o => by rw [World.cell?_alloc_old _ _ _ (by have := hsi.size; show pb ≠ _; omega)]; exact h3
        have R2 := hsi.alloc hsi.size (.cells #[.pointer (some ⟨pb, po, none⟩), .slice sa sn sc] 39)
        have HU : Hid (G (k * 2) = .pointer (some ⟨pb, po, none⟩)) := hu
        clear hT hrow hd hf hnamed hu hv
        go_wp2_with (first
          | (at_mapUpdate; refine wpList_mapUpdate_own _ rfl _ _ _ 42 rfl 9 4 law9 Try.underlying42 (plainElem Try.prog 4) (w.heap.size + 1) k _ rfl (hown.alloc _) (by unfold maxLen; omega) _ _ _ rfl rfl (keyOf_string_mk Try.underlying9 htm) _ [] (plainElem_bool Try.underlying4 true) ?_)
          | go_in)
        intro w1 hown1 hgrow1
        have R3 := R2.grown hgrow1 (by have := hsi.size; simp; omega) (fun j hj => by cases hj; omega)
        have hDm := hown.isMap
        clear hgrow1 R2 hown h3' h3 h1 h2
        go_wp2
        go_roundg (m - (k + 1))
        case measure => go_light; omega
        case rel =>
          go_light
          refine ⟨k + 1, by omega, rfl, by go_num, ⟨_, hown1, fun i b o t' hi hg ht => ?_⟩, R3⟩
          by_cases e : (Lit.string t'.data.toList) = Lit.string t.data.toList
          · rw [e]; exact atKey_put_same hDm (law9.key (keyOf_string_mk Try.underlying9 htm)) _ _
          · rw [atKey_put_other e]
            by_cases e' : i = k
            · subst e'
              rw [HU.out] at hg
              simp at hg
              obtain ⟨rfl, rfl⟩ := hg
              rw [hpt] at ht
              simp at ht
              subst ht
              exact absurd rfl e
            · exact hD i b o t' (by omega) hg ht
    · have hl : ∀ j, j < nd → (Instr.lookup 42 (.map (some (w.heap.size + 1))) (.string (f j)) false).run Try.prog wr = .ok (.bool true) wr := by
        intro j hj
        obtain ⟨c, hrun, hat⟩ := lookup_bool hown law9 Try.underlying42 Try.underlying4 (zero4 _) (keyOf_string_mk Try.underlying9 (hf j hj))
        obtain ⟨i, b, o, hi, hg, hc⟩ := hnamed j hj
        rw [hD i b o (f j) (by omega) hg hc] at hat
        simp at hat
        rw [hrun, ← hat]
      clear hT hrow hnamed hf hD hown
      go_wp2
      go_loopg [36] nd (fun gg i wx => ∃ j : Nat, j ≤ nd ∧ gg = nd - j ∧ i = .int .i64 j ∧ wx = wr)
      case atStart => exact ⟨0, Nat.zero_le _, rfl, rfl, rfl⟩
      case round =>
        obtain ⟨j, hj, rfl, rfl, rfl⟩ := hrel
        by_cases hjlt : j < nd
        · obtain ⟨b, off, rfl, hc⟩ := hd (by omega)
          have hb : b < w.heap.size := World.block_lt_of_cell? _ _ (hc j hjlt)
          have h1 : wr.cell? ⟨b, off + j, none⟩ = some (.string (f j)) := by rw [hsi.cell (a := ⟨b, off + j, none⟩) hb]; exact hc j hjlt
          have h2 := hl j hjlt
          clear hc hd hl
          go_wp2
          go_roundg (nd - (j + 1))
          case measure => go_light; omega
          case rel => go_light; exact ⟨j + 1, by omega, rfl, by go_num, rfl⟩
        · clear hl
          go_wp2
          go_ret2
          exact ⟨rfl, hsi⟩
end Go.Proofs.Qxb6601690a
