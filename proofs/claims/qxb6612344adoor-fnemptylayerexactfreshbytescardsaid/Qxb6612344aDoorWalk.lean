import Derived.Test.Qxb6612344aDoorWant
namespace Go.Proofs.Qxb6612344aDoor
open Go.RowKit

theorem since_cell {w W : World} (T : w.Since w.heap.size W) {b o : Nat} {x : Value} (h : w.cell? ⟨b, o, none⟩ = some x) : W.cell? ⟨b, o, none⟩ = some x := by
  rw [T.cell (a := ⟨b, o, none⟩) (World.block_lt_of_cell? _ _ h)]; exact h
theorem since_since {w W1 W2 : World} (T : w.Since w.heap.size W1) (S : W1.Since W1.heap.size W2) : w.Since w.heap.size W2 :=
  T.trans ⟨S.os, S.tape, S.output, S.size, fun j hj => S.block j (by have := T.size; omega)⟩

theorem bytes_get (i : Nat) (hi : i < 32) : (bytes32.map (Value.int .u8))[i]? = some (.int .u8 (bytes32.getD i 0)) := by
  have hl : i < bytes32.length := hi
  rw [List.getElem?_map, List.getElem?_eq_getElem hl]
  simp [List.getD, hl]

/-- The cells of a row that the call owns. -/
theorem own_cells {W : World} {B g cap : Nat} (h : W.ownsRow B 5 1 (.slice (some ⟨g, 0, none⟩) 32 cap) 32 (bytes32.map (Value.int .u8))) : ∀ i, i < 32 → W.cell? ⟨g, 0 + i, none⟩ = some (.int .u8 (bytes32.getD i 0)) := by
  intro i hi
  rw [Nat.zero_add, h.cellAt i (by omega)]
  exact bytes_get i hi

/-- WHAT THE CALL KNOWS AT EVERY POINT: the variable, its row, the row 'want'. -/
structure Knows (W : World) (b off c B1 : Nat) : Prop where
  var : W.cell? ⟨0, 0, none⟩ = some (.slice (some ⟨b, off, none⟩) 32 c)
  row : ∀ i, i < 32 → W.cell? ⟨b, off + i, none⟩ = some (.int .u8 (bytes32.getD i 0))
  want : ∀ i, i < 32 → W.cell? ⟨B1, 0 + i, none⟩ = some (.int .u8 (bytes32.getD i 0))

theorem Knows.keep {W W' : World} {b off c B1 : Nat} (h : Knows W b off c B1) (S : W.Since W.heap.size W') : Knows W' b off c B1 :=
  ⟨since_cell S h.var, fun i hi => since_cell S (h.row i hi), fun i hi => since_cell S (h.want i hi)⟩

/-- The row that is scribbled over. -/
def Scr (W : World) (B g cap : Nat) : Prop := ∃ xs, W.ownsRow B 5 1 (.slice (some ⟨g, 0, none⟩) 32 cap) 32 xs ∧ ∀ j, j < 32 → ∃ z, xs[j]? = some (.int .u8 z)

theorem Scr.step {W : World} {B g cap k : Nat} (h : Scr W B g cap) (z : Int) : Scr (W.setCell ⟨g, k, none⟩ (.int .u8 z)) B g cap := by
  obtain ⟨xs, ho, hx⟩ := h
  refine ⟨_, (ho.stored k (.int .u8 z)).1, fun j hj => ?_⟩
  by_cases e : k = j
  · subst e
    have hl : k < xs.length := by rw [ho.1]; omega
    exact ⟨z, by simp [hl]⟩
  · rw [List.getElem?_set_ne e]
    exact hx j hj

set_option maxHeartbeats 1000000 in
set_option maxRecDepth 100000 in
theorem main_walk (b off c : Nat) (w : World) (hv : w.cell? ⟨0, 0, none⟩ = some (.slice (some ⟨b, off, none⟩) 32 c)) (hc : ∀ i, i < 32 → w.cell? ⟨b, off + i, none⟩ = some (.int .u8 (bytes32.getD i 0))) :
    Calls Tryd.prog 3 #[] w fun e w' => e = .returned (.bool true) ∧ w.Since w.heap.size w' := by
  have HC : Hid (∀ i, i < 32 → w.cell? ⟨b, off + i, none⟩ = some (.int .u8 (bytes32.getD i 0))) := hc
  have HV : Hid (w.cell? ⟨0, 0, none⟩ = some (.slice (some ⟨b, off, none⟩) 32 c)) := hv
  clear hc hv
  go_enter Tryd.func3, Tryd.ntmps3
  go_wp2_with fail
  refine (want_any _).mono ?_
  rintro e w1 ⟨rfl, S1⟩
  go_wp2_with (refine wpList_store_abs rfl 22 (.tmp 1) (.tmp 5) rfl w1.heap.size 0 want32 rfl rfl (there_new _ _ _ _ rfl) info22 want32_one ?_)
  intro w2 hsz hg hr
  have S2 : w1.Since w1.heap.size w2 := ((World.Since.refl _ _).alloc (Nat.le_refl _) _).grown hg (by simp) (fun k hk => by cases hk; exact Nat.le_refl _)
  have K2 : Knows w2 b off c w1.heap.size := by
    refine ⟨since_cell (since_since S1 S2) HV.out, fun i hi => since_cell (since_since S1 S2) (HC.out i hi), fun i hi => ?_⟩
    refine hr i _ ?_
    rw [want32_list]
    exact bytes_get i hi
  have T2 := since_since S1 S2
  clear hsz hg hr S1 S2 HC HV
  go_wp2_with fail
  refine (empty_any b off c _ K2.var K2.row).mono ?_
  rintro e w3 ⟨⟨g, cap, rfl, hown⟩, S3⟩
  go_wp2_with fail
  refine (same_any g 0 cap w1.heap.size 0 32 32 (fun i => bytes32.getD i 0) _ (by omega) (own_cells hown) (K2.keep S3).want).mono ?_
  rintro e w4 ⟨rfl, S4⟩
  have hScr : Scr w4 w2.heap.size g cap := ⟨_, ⟨hown.1, by
    rcases hown.2 with h | ⟨g', cap', cur, e1, e2, e3, r⟩
    · exact .inl h
    · exact .inr ⟨g', cap', cur, e1, e2, by rw [S4.block g' (Array.getElem?_eq_some_iff.1 e3).1]; exact e3, r⟩⟩, fun j hj => ⟨_, bytes_get j hj⟩⟩
  have hg0 : w2.heap.size ≤ g := (hown.lt g rfl).1
  have S24 := since_since S3 S4
  clear hown S3 S4
  go_wp2
  go_loopg [3] 32 (fun gg i wr => ∃ k : Nat, k ≤ 32 ∧ gg = 32 - k ∧ i = .int .i64 k ∧ Scr wr w2.heap.size g cap ∧ w2.Since w2.heap.size wr)
  case atStart => exact ⟨0, Nat.zero_le _, rfl, rfl, hScr, S24⟩
  case round =>
    obtain ⟨k, hk, rfl, rfl, hscr, hS⟩ := hrel
    clear hScr S24
    by_cases hlt : k < 32
    · obtain ⟨xs, ho, hx⟩ := hscr
      obtain ⟨z, hz⟩ := hx k hlt
      have c1 : wr.cell? ⟨g, k, none⟩ = some (.int .u8 z) := by rw [ho.cellAt k (by omega), hz]
      have z1 := ho.frozenAt k
      have hi1 : (k : Int) < 32 := by omega
      have HS : Hid (Scr wr w2.heap.size g cap) := ⟨xs, ho, hx⟩
      clear ho hx hz
      go_wp2
      go_roundg (32 - (k + 1))
      case measure => go_light; omega
      case rel => go_light; exact ⟨k + 1, by omega, rfl, by go_num, HS.out.step _, hS.setCell hg0 _⟩
    · go_wp2_with fail
      have K5 := K2.keep hS
      refine (empty_any b off c _ K5.var K5.row).mono ?_
      rintro e w5 ⟨⟨g5, cap5, rfl, hown5⟩, S5⟩
      go_wp2_with fail
      refine (same_any g5 0 cap5 w1.heap.size 0 32 32 (fun i => bytes32.getD i 0) _ (by omega) (own_cells hown5) (K5.keep S5).want).mono ?_
      rintro e w6 ⟨rfl, S6⟩
      have S := since_since T2 (since_since hS (since_since S5 S6))
      clear hown5 K5 S5 S6 K2 T2 hS hscr
      go_wp2
      go_ret
      exact ⟨rfl, S⟩
end Go.Proofs.Qxb6612344aDoor
