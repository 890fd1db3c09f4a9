import Derived.Test.Qxb6601690aTargets
namespace Go.Proofs.Qxb6601690a
open Go.RowKit

theorem make39 (n : Nat) (hn : 32 * n ≤ 281474976710656) (w : World) :
    (Instr.makeSlice 30 (.int .i64 (n : Int)) (.int .i64 (n : Int))).run Try.prog w = .ok (.slice (some ⟨w.heap.size, 0, none⟩) n n) (w.alloc (.cells (madeCells #[.pointer none, .slice none 0 0] (n * 2)) 39)) := by
  obtain ⟨i0, hi, hz0, hz1, hz2⟩ := info_parts info39
  have hr := run_make (P := Try.prog) w 30 39 i0 _ Try.underlying30 hi hz0 .i64 .i64 n n (by omega) (Int.le_refl _) (by rw [hz2]; omega) (by omega)
  simp only [Int.toNat_natCast, hz1] at hr
  exact hr

theorem Tgt.rebase {B B' : Nat} {w : World} {u v : Value} (h : Tgt B w u v) (hB : w.heap.size ≤ B') : Tgt B' w u v := by
  obtain ⟨⟨p, hu, hp⟩, hv⟩ := h
  refine ⟨⟨p, hu, ?_⟩, hv⟩
  rcases hp with hp | ⟨b, o, s, hp, hb, hm, hc⟩
  · exact .inl hp
  · exact .inr ⟨b, o, s, hp, by have := World.block_lt_of_cell? _ _ hc; simp at this; omega, hm, hc⟩

theorem pair_step {B t n k : Nat} {W : World} {G : Nat → Value} {Q : Value → Value → Prop} (hrow : W.rowIs B t (n * 2) G) (hT : ∀ i, i < k → Q (G (i * 2)) (G (i * 2 + 1))) {u v : Value} (hu : Q u v) :
    ∃ G', ((W.setCell ⟨B, k * 2, none⟩ u).setCell ⟨B, k * 2 + 1, none⟩ v).rowIs B t (n * 2) G' ∧ ∀ i, i < k + 1 → Q (G' (i * 2)) (G' (i * 2 + 1)) := by
  refine ⟨_, (hrow.set (k * 2) u).set (k * 2 + 1) v, fun i hi => ?_⟩
  by_cases e : i = k
  · subst e
    rw [if_neg (by omega), if_pos rfl, if_pos rfl]
    exact hu
  · rw [if_neg (by omega), if_neg (by omega), if_neg (by omega), if_neg (by omega)]
    exact hT i (by omega)

set_option maxHeartbeats 400000 in
theorem toAuth_any (s : ByteArray) (aa oa : Option Addr) (an ac on oc : Nat) (ao : Option Addr) (n c : Nat) (B : Nat) (w : World) (hn : 32 * n ≤ 281474976710656)
    (hao : 0 < n → ∃ b G, ao = some ⟨b, 0, none⟩ ∧ w.rowIs b 41 (n * 2) G ∧ ∀ i, i < n → Tgt B w (G (i * 2)) (G (i * 2 + 1))) :
    Calls Try.prog 10 #[.string s, .slice aa an ac, .slice oa on oc, .slice ao n c] w fun e w' => (∃ ts, e = .returned (.agg #[.string s, .slice aa an ac, .slice oa on oc, .slice ts n n]) ∧ (0 < n → ts = some ⟨w.heap.size + 1, 0, none⟩ ∧ ∃ G,
      w'.rowIs (w.heap.size + 1) 39 (n * 2) G ∧ ∀ i, i < n → Tgt (w.heap.size + 1) w' (G (i * 2)) (G (i * 2 + 1)))) ∧ w.Since w.heap.size w' := by
  have hmk := make39 n hn
  have q24 : ∀ (w : World) (a : Option Addr) (n c n' c' : Nat), (binOp .neq 24 (.slice a n c) (.slice none n' c')).run Try.prog w = .ok (.bool (!a.isNone)) w := fun w a n c n' c' => run_neq_slice_nil_any w _ _ a n c n' c' Try.underlying24
  cases ao with
  | none =>
    have hn0 : n = 0 := by
      by_cases h : 0 < n
      · obtain ⟨b, off, h1, _⟩ := hao h; cases h1
      · omega
    subst hn0
    go_enter Try.func10, Try.ntmps10
    go_wp2
    refine wp_loop_rounds 1 ?_
    rw [rounds_succ]
    go_wp2
    exact bodyPost_ret (v := .agg #[.string s, .slice aa an ac, .slice oa on oc, .slice none 0 0]) (by simp [results, Try.results10, go_sem]) rfl ⟨⟨_, rfl, fun h => absurd h (Nat.lt_irrefl _)⟩, (World.Since.refl _ _).alloc (Nat.le_refl _) _⟩
  | some a =>
    go_enter Try.func10, Try.ntmps10
    go_wp2
    clear hmk q24
    go_loopg [10] n (fun g i wr => ∃ k : Nat, k ≤ n ∧ g = n - k ∧ i = .int .i64 k ∧ wr.rowIs w.heap.size 32 4 (fun i => if i = 0 then .string ⟨#[]⟩ else .slice none 0 0) ∧ (∃ G, wr.rowIs (w.heap.size + 1) 39 (n * 2) G ∧ ∀ i, i < k → Tgt B w (G (i * 2)) (G (i * 2 + 1))) ∧ w.Since w.heap.size wr)
    case atStart =>
      refine ⟨0, Nat.zero_le _, rfl, rfl, ?_, ⟨fun i => (madeCells #[.pointer none, .slice none 0 0] (n * 2))[i]!, ?_, fun i hi => absurd hi (Nat.not_lt_zero _)⟩, ((World.Since.refl _ _).alloc (Nat.le_refl _) _).alloc (by simp) _⟩
      · refine World.rowIs.alloc (World.rowIs_alloc w #[.string ⟨#[]⟩, .slice none 0 0, .slice none 0 0, .slice none 0 0] 32 _ ?_) _
        intro i hi
        match i, hi with
        | 0, _ => rfl
        | 1, _ => rfl
        | 2, _ => rfl
        | 3, _ => rfl
      · have := World.rowIs_alloc (w.alloc (.cells #[.string ⟨#[]⟩, .slice none 0 0, .slice none 0 0, .slice none 0 0] 32)) (madeCells #[.pointer none, .slice none 0 0] (n * 2)) 39 (fun i => (madeCells #[.pointer none, .slice none 0 0] (n * 2))[i]!) (fun i hi => by simp [hi])
        rw [size_madeCells] at this
        simpa using this
    case round =>
      obtain ⟨k, hk, rfl, rfl, hres, ⟨G, hrow, hT⟩, hsi⟩ := hrel
      by_cases hlt : k < n
      · obtain ⟨b, G0, h0, hr0, hT0⟩ := hao (by omega)
        obtain rfl : a = ⟨b, 0, none⟩ := Option.some.inj h0
        have hb : b < w.heap.size := hr0.lt
        obtain ⟨⟨p, hu, hp⟩, sa, sn, sc, hv⟩ := hT0 k hlt
        have HP : Hid (p = none ∨ ∃ b o s, p = some ⟨b, o, none⟩ ∧ b ≠ B ∧ s.size ≤ maxLen ∧ w.cell? ⟨b, o, none⟩ = some (.string s)) := hp
        clear hp
        have h1 : wr.cell? ⟨b, k * 2, none⟩ = some (.pointer p) := by rw [hsi.cell (a := ⟨b, k * 2, none⟩) hb, hr0.cell (by omega), hu]
        have h1' : wr.cell? ⟨b, k * 2 + 1, none⟩ = some (.slice sa sn sc) := by rw [hsi.cell (a := ⟨b, k * 2 + 1, none⟩) hb, hr0.cell (by omega), hv]
        have c1 : wr.cell? ⟨w.heap.size + 1, k * 2, none⟩ = some (G (k * 2)) := hrow.cell (by omega)
        have c2 : wr.cell? ⟨w.heap.size + 1, k * 2 + 1, none⟩ = some (G (k * 2 + 1)) := hrow.cell (by omega)
        have z1 := hrow.frozen (k * 2)
        have z2 := hrow.frozen (k * 2 + 1)
        have hi1 : (k : Int) < (n : Int) := by omega
        clear hao h0
        go_wp2
        go_region
        go_wp2
        go_roundg (n - (k + 1))
        case measure => go_light; omega
        case rel =>
          go_light
          exact ⟨k + 1, by omega, rfl, by go_num, ((hres.setOther (by show w.heap.size ≠ w.heap.size + 1; omega) _).setOther (by show w.heap.size ≠ w.heap.size + 1; omega) _).drew, pair_step hrow hT ⟨⟨p, rfl, HP.out⟩, sa, sn, sc, rfl⟩, ((hsi.setCell (by show w.heap.size ≤ w.heap.size + 1; omega) _).setCell (by show w.heap.size ≤ w.heap.size + 1; omega) _).drew⟩
      · have c0 := hres.cell (i := 0) (by omega)
        have c1 := hres.cell (i := 1) (by omega)
        have c2 := hres.cell (i := 2) (by omega)
        have c3 := hres.cell (i := 3) (by omega)
        have z0 := hres.frozen 0
        have z1 := hres.frozen 1
        have z2 := hres.frozen 2
        have z3 := hres.frozen 3
        go_wp2
        go_light
        have hS : w.Since w.heap.size ((((wr.setCell ⟨w.heap.size, 0, none⟩ (.string s)).setCell ⟨w.heap.size, 1, none⟩ (.slice aa an ac)).setCell ⟨w.heap.size, 2, none⟩ (.slice oa on oc)).setCell ⟨w.heap.size, 3, none⟩ (.slice (some ⟨w.heap.size + 1, 0, none⟩) n n)) :=
          (((hsi.setCell (Nat.le_refl _) _).setCell (Nat.le_refl _) _).setCell (Nat.le_refl _) _).setCell (Nat.le_refl _) _
        have hR := (((hrow.setOther (a := ⟨w.heap.size, 0, none⟩) (by show w.heap.size + 1 ≠ w.heap.size; omega) (.string s)).setOther (a := ⟨w.heap.size, 1, none⟩) (by show w.heap.size + 1 ≠ w.heap.size; omega) (.slice aa an ac)).setOther (a := ⟨w.heap.size, 2, none⟩) (by show w.heap.size + 1 ≠ w.heap.size; omega) (.slice oa on oc)).setOther (a := ⟨w.heap.size, 3, none⟩) (by show w.heap.size + 1 ≠ w.heap.size; omega) (.slice (some ⟨w.heap.size + 1, 0, none⟩) n n)
        exact bodyPost_ret (v := .agg #[.string s, .slice aa an ac, .slice oa on oc, .slice (some ⟨w.heap.size + 1, 0, none⟩) n n]) (by simp [results, Try.results10, go_sem, c0, c1, c2, c3]) rfl ⟨⟨_, rfl, fun _ => ⟨rfl, G, hR, fun i hi => ((hT i (by omega)).rebase (B' := w.heap.size + 1) (by omega)).keep (since_keep hS)⟩⟩, hS⟩
end Go.Proofs.Qxb6601690a
