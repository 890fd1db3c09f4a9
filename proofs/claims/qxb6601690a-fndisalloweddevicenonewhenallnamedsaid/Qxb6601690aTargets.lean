import Derived.Test.Qxb6601690aCopies
namespace Go.Proofs.Qxb6601690a
open Go.RowKit

theorem info41 : (Try.prog.info? 41).map (fun i => (i.zero, i.size, i.bytes)) = some (some (.agg #[.pointer none, .slice none 0 0]), 2, 32) := by kernel_rfl
theorem info39 : (Try.prog.info? 39).map (fun i => (i.zero, i.size, i.bytes)) = some (some (.agg #[.pointer none, .slice none 0 0]), 2, 32) := by kernel_rfl

theorem make41 (n : Nat) (hn : 32 * n ≤ 281474976710656) (w : World) :
    (Instr.makeSlice 24 (.int .i64 (n : Int)) (.int .i64 (n : Int))).run Try.prog w = .ok (.slice (some ⟨w.heap.size, 0, none⟩) n n) (w.alloc (.cells (madeCells #[.pointer none, .slice none 0 0] (n * 2)) 41)) := by
  obtain ⟨i0, hi, hz0, hz1, hz2⟩ := info_parts info41
  have hr := run_make (P := Try.prog) w 24 41 i0 _ Try.underlying24 hi hz0 .i64 .i64 n n (by omega) (Int.le_refl _) (by rw [hz2]; omega) (by omega)
  simp only [Int.toNat_natCast, hz1] at hr
  exact hr

/-- WHAT A TARGET's TWO CELLS HOLD: a pointer, nil or to a string's cell outside block B; a slice. -/
def Tgt (B : Nat) (w : World) (u v : Value) : Prop :=
  (∃ p, u = .pointer p ∧ (p = none ∨ ∃ b o s, p = some ⟨b, o, none⟩ ∧ b ≠ B ∧ s.size ≤ maxLen ∧ w.cell? ⟨b, o, none⟩ = some (.string s))) ∧ ∃ sa sn sc, v = .slice sa sn sc

theorem Tgt.keep {B : Nat} {w w' : World} {u v : Value} (h : Tgt B w u v) (hk : ∀ b o x, b ≠ B → w.cell? ⟨b, o, none⟩ = some x → w'.cell? ⟨b, o, none⟩ = some x) : Tgt B w' u v := by
  obtain ⟨⟨p, hu, hp⟩, hv⟩ := h
  refine ⟨⟨p, hu, ?_⟩, hv⟩
  rcases hp with hp | ⟨b, o, s, hp, hb, hm, hc⟩
  · exact .inl hp
  · exact .inr ⟨b, o, s, hp, hb, hm, hk _ _ _ hb hc⟩

theorem tgt_step {B t n k : Nat} {W : World} {G : Nat → Value} (hrow : W.rowIs B t (n * 2) G) (hT : ∀ i, i < k → Tgt B W (G (i * 2)) (G (i * 2 + 1))) {u v : Value} (hu : Tgt B W u v) :
    ∃ G', ((W.setCell ⟨B, k * 2, none⟩ u).setCell ⟨B, k * 2 + 1, none⟩ v).rowIs B t (n * 2) G' ∧ ∀ i, i < k + 1 → Tgt B ((W.setCell ⟨B, k * 2, none⟩ u).setCell ⟨B, k * 2 + 1, none⟩ v) (G' (i * 2)) (G' (i * 2 + 1)) := by
  refine ⟨_, (hrow.set (k * 2) u).set (k * 2 + 1) v, fun i hi => ?_⟩
  have hkeep : ∀ b o x, b ≠ B → W.cell? ⟨b, o, none⟩ = some x → ((W.setCell ⟨B, k * 2, none⟩ u).setCell ⟨B, k * 2 + 1, none⟩ v).cell? ⟨b, o, none⟩ = some x := by
    intro b o x hb hc
    rw [World.cell?_setCell_other _ _ _ _ (fun e => by have := congrArg Addr.block e; simp at this; omega), World.cell?_setCell_other _ _ _ _ (fun e => by have := congrArg Addr.block e; simp at this; omega)]
    exact hc
  by_cases e : i = k
  · subst e
    rw [if_neg (by omega), if_pos rfl, if_pos rfl]
    exact hu.keep hkeep
  · rw [if_neg (by omega), if_neg (by omega), if_neg (by omega), if_neg (by omega)]
    exact (hT i (by omega)).keep hkeep

theorem since_keep {B : Nat} {w w' : World} (h : w.Since w.heap.size w') : ∀ b o x, b ≠ B → w.cell? ⟨b, o, none⟩ = some x → w'.cell? ⟨b, o, none⟩ = some x := by
  intro b o x _ hc
  rw [h.cell (a := ⟨b, o, none⟩) (World.block_lt_of_cell? _ _ hc)]
  exact hc

set_option maxHeartbeats 400000 in
theorem copyTargets_any (ao : Option Addr) (n c : Nat) (p : Nat → Option Addr) (sa : Nat → Option Addr) (sn sc : Nat → Nat) (f : Nat → Nat → Int) (w : World) (hn : 32 * n ≤ 281474976710656)
    (hao : 0 < n → ∃ b off, ao = some ⟨b, off, none⟩ ∧ ∀ i, i < n → w.cell? ⟨b, off + i * 2, none⟩ = some (.pointer (p i)) ∧ w.cell? ⟨b, off + i * 2 + 1, none⟩ = some (.slice (sa i) (sn i) (sc i)))
    (hp : ∀ i, i < n → p i = none ∨ ∃ b o s, p i = some ⟨b, o, none⟩ ∧ s.size ≤ maxLen ∧ w.cell? ⟨b, o, none⟩ = some (.string s))
    (hsn : ∀ i, i < n → sn i ≤ 281474976710656)
    (hs : ∀ i, i < n → 0 < sn i → ∃ b off, sa i = some ⟨b, off, none⟩ ∧ ∀ j, j < sn i → w.cell? ⟨b, off + j, none⟩ = some (.int .u8 (f i j))) :
    Calls Try.prog 9 #[.slice ao n c] w fun e w' => (∃ ao', e = .returned (.slice ao' n n) ∧ (0 < n → ao' = some ⟨w.heap.size, 0, none⟩ ∧
      ∃ G, w'.rowIs w.heap.size 41 (n * 2) G ∧ ∀ i, i < n → Tgt w.heap.size w' (G (i * 2)) (G (i * 2 + 1)))) ∧ w.Since w.heap.size w' := by
  have hmk := make41 n hn
  have q24 : ∀ (w : World) (a : Option Addr) (n c n' c' : Nat), (binOp .eql 24 (.slice a n c) (.slice none n' c')).run Try.prog w = .ok (.bool a.isNone) w := fun w a n c n' c' => Lib.run_eql_slice_nil w _ _ a n c n' c' Try.underlying24
  cases ao with
  | none =>
    have hn0 : n = 0 := by
      by_cases h : 0 < n
      · obtain ⟨b, off, h1, _⟩ := hao h; cases h1
      · omega
    subst hn0
    go_enter Try.func9, Try.ntmps9
    go_wp2
    go_ret
    exact ⟨⟨_, rfl, fun h => absurd h (Nat.lt_irrefl _)⟩, World.Since.refl _ _⟩
  | some a =>
    go_enter Try.func9, Try.ntmps9
    go_wp2
    clear hmk q24
    go_loopg [4] n (fun g i wr => ∃ k : Nat, k ≤ n ∧ g = n - k ∧ i = .int .i64 k ∧ (∃ G, wr.rowIs w.heap.size 41 (n * 2) G ∧ ∀ i, i < k → Tgt w.heap.size wr (G (i * 2)) (G (i * 2 + 1))) ∧ w.Since w.heap.size wr)
    case atStart =>
      refine ⟨0, Nat.zero_le _, rfl, rfl, ⟨fun i => (madeCells #[.pointer none, .slice none 0 0] (n * 2))[i]!, ?_, fun i hi => absurd hi (Nat.not_lt_zero _)⟩, (World.Since.refl _ _).alloc (Nat.le_refl _) _⟩
      have := World.rowIs_alloc w (madeCells #[.pointer none, .slice none 0 0] (n * 2)) 41 (fun i => (madeCells #[.pointer none, .slice none 0 0] (n * 2))[i]!) (fun i hi => by simp [hi])
      rw [size_madeCells] at this
      exact this
    case round =>
      obtain ⟨k, hk, rfl, rfl, ⟨G, hrow, hT⟩, hsi⟩ := hrel
      by_cases hlt : k < n
      · obtain ⟨b, off, h0, hc⟩ := hao (by omega)
        obtain rfl : a = ⟨b, off, none⟩ := Option.some.inj h0
        have hb : b < w.heap.size := World.block_lt_of_cell? _ _ (hc k hlt).1
        have h1 : wr.cell? ⟨b, off + k * 2, none⟩ = some (.pointer (p k)) := by rw [hsi.cell (a := ⟨b, off + k * 2, none⟩) hb]; exact (hc k hlt).1
        have h1' : wr.cell? ⟨b, off + k * 2 + 1, none⟩ = some (.slice (sa k) (sn k) (sc k)) := by rw [hsi.cell (a := ⟨b, off + k * 2 + 1, none⟩) hb]; exact (hc k hlt).2
        have hbr : b < wr.heap.size := by have := hsi.size; omega
        have hcb : ∀ (W : World), wr.Since wr.heap.size W → (0 < sn k → ∃ b off, sa k = some ⟨b, off, none⟩ ∧ ∀ j, j < sn k → W.cell? ⟨b, off + j, none⟩ = some (.int .u8 (f k j))) := by
          intro W hW h
          obtain ⟨b', off', e, hcc⟩ := hs k hlt h
          refine ⟨b', off', e, fun j hj => ?_⟩
          have hb' : b' < w.heap.size := World.block_lt_of_cell? _ _ (hcc j hj)
          rw [hW.cell (a := ⟨b', off' + j, none⟩) (by have := hsi.size; show b' < _; omega), hsi.cell (a := ⟨b', off' + j, none⟩) hb']
          exact hcc j hj
        have hsk := hsn k hlt
        rcases hp k hlt with hpk | ⟨pb, po, s, hpk, hsm, hcs⟩
        · rw [hpk] at h1
          clear hc hao h0 hs hp hsn
          go_wp2_with fail
          refine (copyBytes_any _ _ _ (f k) _ hsk ?_).mono ?_
          · exact hcb wr (World.Since.refl _ _)
          rintro e W2 ⟨⟨ra, rn, rc, rfl⟩, hS⟩
          have r1 : W2.rowIs w.heap.size 41 (n * 2) G := hrow.of_block (hS.block _ hrow.lt)
          have c1 : W2.cell? ⟨w.heap.size, k * 2, none⟩ = some (G (k * 2)) := r1.cell (by omega)
          have c2 : W2.cell? ⟨w.heap.size, k * 2 + 1, none⟩ = some (G (k * 2 + 1)) := r1.cell (by omega)
          have z1 := r1.frozen (k * 2)
          have z2 := r1.frozen (k * 2 + 1)
          clear hcb h1 h1'
          go_wp2
          go_roundg (n - (k + 1))
          case measure => go_light; omega
          case rel =>
            go_light
            refine ⟨k + 1, by omega, rfl, by go_num, tgt_step r1 (fun i hi => (hT i hi).keep (since_keep hS)) ⟨⟨_, rfl, .inl rfl⟩, _, _, _, rfl⟩, ?_⟩
            exact (((hsi.trans ⟨hS.os, hS.tape, hS.output, hS.size, fun j hj => hS.block j (by have := hsi.size; omega)⟩).setCell (Nat.le_refl _) _).setCell (Nat.le_refl _) _)
        · rw [hpk] at h1
          have hpb : pb < w.heap.size := World.block_lt_of_cell? _ _ hcs
          have hcs' : wr.cell? ⟨pb, po, none⟩ = some (.string s) := by rw [hsi.cell (a := ⟨pb, po, none⟩) hpb]; exact hcs
          have g1 : ∀ o, (wr.alloc o).cell? ⟨b, off + k * 2, none⟩ = some (.pointer (some ⟨pb, po, none⟩)) := fun o => by rw [World.cell?_alloc_old _ _ _ (by show b ≠ _; omega)]; exact h1
          have g2 : ∀ o, (wr.alloc o).cell? ⟨b, off + k * 2 + 1, none⟩ = some (.slice (sa k) (sn k) (sc k)) := fun o => by rw [World.cell?_alloc_old _ _ _ (by show b ≠ _; omega)]; exact h1'
          have g3 : ∀ o, (wr.alloc o).cell? ⟨pb, po, none⟩ = some (.string s) := fun o => by rw [World.cell?_alloc_old _ _ _ (by have := hsi.size; show pb ≠ _; omega)]; exact hcs'
          clear hc hao h0 hs hp hsn hcs hpk
          go_wp2_with fail
          refine (copyBytes_any _ _ _ (f k) _ hsk ?_).mono ?_
          · exact hcb _ ((World.Since.refl _ _).alloc (Nat.le_refl _) _)
          rintro e W2 ⟨⟨ra, rn, rc, rfl⟩, hS⟩
          have hS0 : wr.Since wr.heap.size (wr.alloc (.cells #[.string s] 9)) := (World.Since.refl _ _).alloc (Nat.le_refl _) _
          have hsz : (wr.alloc (.cells #[.string s] 9)).heap.size = wr.heap.size + 1 := by simp
          have hS1 : wr.Since wr.heap.size W2 := hS0.trans ⟨hS.os, hS.tape, hS.output, hS.size, fun j hj => hS.block j (by omega)⟩
          have r1 : W2.rowIs w.heap.size 41 (n * 2) G := hrow.of_block (hS1.block _ hrow.lt)
          have c1 : W2.cell? ⟨w.heap.size, k * 2, none⟩ = some (G (k * 2)) := r1.cell (by omega)
          have c2 : W2.cell? ⟨w.heap.size, k * 2 + 1, none⟩ = some (G (k * 2 + 1)) := r1.cell (by omega)
          have z1 := r1.frozen (k * 2)
          have z2 := r1.frozen (k * 2 + 1)
          have hnew : W2.cell? ⟨wr.heap.size, 0, none⟩ = some (.string s) := by
            rw [hS.cell (a := ⟨wr.heap.size, 0, none⟩) (by show wr.heap.size < _; omega)]
            simp
          clear hcb h1 h1' g1 g2 g3
          go_wp2
          go_roundg (n - (k + 1))
          case measure => go_light; omega
          case rel =>
            go_light
            refine ⟨k + 1, by omega, rfl, by go_num, tgt_step r1 (fun i hi => (hT i hi).keep (since_keep hS1)) ⟨⟨_, rfl, .inr ⟨_, _, s, rfl, by have := hrow.lt; omega, hsm, hnew⟩⟩, _, _, _, rfl⟩, ?_⟩
            exact (((hsi.trans ⟨hS1.os, hS1.tape, hS1.output, hS1.size, fun j hj => hS1.block j (by have := hsi.size; omega)⟩).setCell (Nat.le_refl _) _).setCell (Nat.le_refl _) _)
      · go_wp2
        go_ret
        exact ⟨⟨_, rfl, fun _ => ⟨rfl, G, hrow, fun i hi => hT i (by omega)⟩⟩, hsi⟩
end Go.Proofs.Qxb6601690a
