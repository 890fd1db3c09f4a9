import Derived.Test.Qxb6603153aRows
import Derived.WalkKit
import Derived.WalkSpells
import Derived.WalkLawsBesides
import Derived.Laws.BytesArg
import Derived.Deep.LoopGhost
import Derived.Deep.OwnRows
import Derived.Deep.Cut
import Derived.Deep.Light
namespace Go.Proofs.Qxb6603153a
open Go.RowKit

/-- Every byte of s is an ASCII digit. -/
def Digs (s : ByteArray) : Prop := ∀ i (h : i < s.size), 48 ≤ (s[i]'h).toNat ∧ (s[i]'h).toNat ≤ 57

set_option maxHeartbeats 400000 in
set_option maxRecDepth 100000 in
theorem indexFunc_digs (s : ByteArray) (w : World) (hs : Digs s) :
    Calls Try.prog 12 #[.string s, .func (.func 10) #[] #[], .bool true] w fun e w' => e = .returned (.int .i64 (-1)) ∧ w.Since w.heap.size w' := by
  have H : Hid (Digs s) := hs
  clear hs
  go_enter Try.func12, Try.ntmps12
  go_wp2
  go_loopg [6] s.size (fun gg r wr => ∃ pos : Nat, pos ≤ s.size ∧ gg = s.size - pos ∧ r = .int .i64 0 ∧ wr = w.iter s pos)
  case atStart => exact ⟨0, Nat.zero_le _, rfl, rfl, rfl⟩
  case round =>
    obtain ⟨pos, hp, rfl, rfl, rfl⟩ := hrel
    by_cases hlt : pos < s.size
    · have hd := H.out pos hlt
      have hn := fun ty => run_next_ascii (P := Try.prog) w s pos ty hlt (by omega)
      generalize (s[pos]'hlt).toNat = c at hd hn
      have hc1 : 48 ≤ (c : Int) := by omega
      have hc2 : (c : Int) ≤ 57 := by omega
      clear hd
      go_wp2
      go_roundg (s.size - (pos + 1))
      case measure => go_light; omega
      case rel => go_light; exact ⟨pos + 1, by omega, rfl, rfl, rfl⟩
    · have hn := fun ty => run_next_end (P := Try.prog) w s pos ty hlt
      go_wp2
      go_ret
      exact ⟨rfl, (World.Since.refl _ _).alloc (Nat.le_refl _) _⟩

/-- Six digits' cells make a string of six digits. -/
theorem digs_of (xs : List Int) (hx : ∀ n ∈ xs, 48 ≤ n ∧ n ≤ 57) : (strOfNums xs).size = xs.length ∧ Digs (strOfNums xs) := by
  refine ⟨strOfNums_size xs, fun i h => ?_⟩
  have hi : i < xs.length := by rw [strOfNums_size] at h; exact h
  have e : (strOfNums xs)[i]'h = UInt8.ofNat (xs[i]'hi).toNat := by
    have h1 : (strOfNums xs).data.toList[i]? = some (UInt8.ofNat (xs[i]'hi).toNat) := by rw [strOfNums_data]; simp [hi]
    have h2 : (strOfNums xs).data.toList[i]? = some ((strOfNums xs)[i]'h) := by
      rw [List.getElem?_eq_some_iff]
      exact ⟨by simpa using h, rfl⟩
    rw [h2] at h1
    exact Option.some.inj h1
  have hb := hx _ (List.getElem_mem hi)
  rw [e]
  have : (UInt8.ofNat (xs[i]'hi).toNat).toNat = (xs[i]'hi).toNat := by
    rw [UInt8.toNat_ofNat']
    omega
  omega

set_option maxHeartbeats 400000 in
set_option maxRecDepth 100000 in
theorem pad6_any (n : Int) (h0 : 0 ≤ n) (h1 : n ≤ 999999) (w : World) :
    Calls Try.prog 8 #[.int .i64 n] w fun e w' => (∃ s, e = .returned (.string s) ∧ s.size = 6 ∧ Digs s) ∧ w.Since w.heap.size w' := by
  go_enter Try.func8, Try.ntmps8
  go_wp2
  go_loopg [0, 4] 6 (fun gg nv iv wr => ∃ (m i : Int), 0 ≤ m ∧ m ≤ 999999 ∧ gg ≤ 6 ∧ i = (gg : Int) - 1 ∧ nv = .int .i64 m ∧ iv = .int .i64 i ∧ (∃ F, wr.rowIs w.heap.size 28 6 F ∧ ∀ j, gg ≤ j → j < 6 → ∃ z : Int, F j = .int .u8 z ∧ 48 ≤ z ∧ z ≤ 57) ∧ w.Since w.heap.size wr)
  case atStart =>
    refine ⟨n, 5, h0, h1, Nat.le_refl _, rfl, rfl, rfl, ⟨fun _ => .int .u8 0, ?_, fun j h h' => by omega⟩, (World.Since.refl _ _).alloc (Nat.le_refl _) _⟩
    refine World.rowIs_alloc w #[.int .u8 0, .int .u8 0, .int .u8 0, .int .u8 0, .int .u8 0, .int .u8 0] 28 _ ?_
    intro i hi
    match i, hi with
    | 0, _ => rfl
    | 1, _ => rfl
    | 2, _ => rfl
    | 3, _ => rfl
    | 4, _ => rfl
    | 5, _ => rfl
  case round =>
    obtain ⟨m, i, hm0, hm1, hg, hi, rfl, rfl, ⟨F, hrow, hF⟩, hS⟩ := hrel
    cases gk with
    | succ j =>
      obtain rfl : i = (j : Int) := by omega
      have hj6 : j < 6 := by omega
      have hj6' : (j : Int) < 6 := by omega
      have c1 := hrow.cell hj6
      have z1 := hrow.frozen j
      have HF : Hid (∀ j', j + 1 ≤ j' → j' < 6 → ∃ z : Int, F j' = .int .u8 z ∧ 48 ≤ z ∧ z ≤ 57) := hF
      clear hF hi
      go_wp2
      go_roundg j
      case measure => go_light; omega
      case rel =>
        go_light
        refine ⟨m / 10, (j : Int) - 1, by omega, by omega, by omega, rfl, rfl, rfl, ⟨_, hrow.set j (.int .u8 (48 + m % 10)), fun j' h1 h2 => ?_⟩, hS.setCell (Nat.le_refl _) _⟩
        by_cases e : j' = j
        · rw [if_pos e]
          exact ⟨_, rfl, by omega, by omega⟩
        · rw [if_neg e]
          exact HF.out j' (by omega) h2
    | zero =>
      obtain rfl : i = -1 := by omega
      have hcell : ∀ j, j < 6 → wr.cell? ⟨w.heap.size, 0 + j, none⟩ = some (.int .u8 (((List.range 6).map fun j => intOf (F j)).getD j 0)) := by
        intro j hj
        obtain ⟨z, hz, _⟩ := hF j (Nat.zero_le _) hj
        have e : ((List.range 6).map fun j => intOf (F j)).getD j 0 = intOf (F j) := by simp [List.getD, hj]
        rw [e, Nat.zero_add, hrow.cell hj, hz]
        rfl
      have hD := digs_of ((List.range 6).map fun j => intOf (F j)) (by
        intro n hn
        obtain ⟨j, hj, rfl⟩ := List.mem_map.1 hn
        obtain ⟨z, hz, h1, h2⟩ := hF j (Nat.zero_le _) (by simpa using hj)
        rw [hz]
        exact ⟨h1, h2⟩)
      have hcv := run_convert_bytes_arg (P := Try.prog) (w := wr) 29 5 Try.underlying29 Try.underlying5 w.heap.size 0 6 6 ((List.range 6).map fun j => intOf (F j)) (by simp) hcell 9 Try.underlying9
      rw [List.length_map, List.length_range] at hD
      generalize strOfNums ((List.range 6).map fun j => intOf (F j)) = str at hD hcv
      have HD : Hid (str.size = 6 ∧ Digs str) := hD
      clear hi hg hF hcell hD
      go_wp2
      go_ret
      exact ⟨⟨str, rfl, HD.out⟩, hS⟩

set_option maxHeartbeats 400000 in
set_option maxRecDepth 100000 in
theorem contains_digs (s : ByteArray) (w : World) (hs : Digs s) :
    Calls Try.prog 9 #[.string s, .func (.func 10) #[] #[]] w fun e w' => e = .returned (.bool false) ∧ w.Since w.heap.size w' := by
  have H : Hid (Digs s) := hs
  clear hs
  have h11 : ∀ W, Calls Try.prog 11 #[.string s, .func (.func 10) #[] #[]] W fun e w' => e = .returned (.int .i64 (-1)) ∧ W.Since W.heap.size w' := by
    intro W
    go_enter Try.func11, Try.ntmps11
    go_wp2_with fail
    refine (indexFunc_digs s _ H.out).mono ?_
    rintro e w1 ⟨rfl, S⟩
    go_wp2
    go_ret
    exact ⟨rfl, S⟩
  have H11 : Hid (∀ W, Calls Try.prog 11 #[.string s, .func (.func 10) #[] #[]] W fun e w' => e = .returned (.int .i64 (-1)) ∧ W.Since W.heap.size w') := h11
  clear h11
  go_enter Try.func9, Try.ntmps9
  go_wp2_with fail
  refine (H11.out _).mono ?_
  rintro e w1 ⟨rfl, S⟩
  clear H11
  go_wp2
  go_ret
  exact ⟨rfl, S⟩

set_option maxHeartbeats 400000 in
set_option maxRecDepth 100000 in
theorem problem_digs (s : ByteArray) (w : World) (h6 : s.size = 6) (hs : Digs s) :
    Calls Try.prog 7 #[.string s] w fun e w' => e = .returned (.string ⟨#[]⟩) ∧ w.Since w.heap.size w' := by
  have H : Hid (Digs s) := hs
  have h6' : ((s.size : Int) != 6) = false := by simp [h6]
  clear hs h6
  go_enter Try.func7, Try.ntmps7
  go_wp2_with fail
  refine (contains_digs s _ H.out).mono ?_
  rintro e w1 ⟨rfl, S⟩
  clear H h6'
  go_wp2
  go_ret
  exact ⟨rfl, S⟩

set_option maxHeartbeats 400000 in
set_option maxRecDepth 100000 in
theorem main_walk (n : Int) (w : World) :
    Calls Try.prog 4 #[.int .i64 n] w fun e w' => e = .returned (.bool true) ∧ w.Since w.heap.size w' := by
  by_cases h0 : n < 0
  · go_enter Try.func4, Try.ntmps4
    go_wp2
    go_ret
    exact ⟨rfl, World.Since.refl _ _⟩
  by_cases h1 : 999999 < n
  · go_enter Try.func4, Try.ntmps4
    go_wp2
    go_ret
    exact ⟨rfl, World.Since.refl _ _⟩
  go_enter Try.func4, Try.ntmps4
  go_wp2_with fail
  refine (pad6_any n (by omega) (by omega) _).mono ?_
  rintro e w1 ⟨⟨s, rfl, h6, hD⟩, S1⟩
  have H : Hid (s.size = 6 ∧ Digs s) := ⟨h6, hD⟩
  clear h6 hD
  go_wp2_with fail
  refine (problem_digs s _ H.out.1 H.out.2).mono ?_
  rintro e w2 ⟨rfl, S2⟩
  clear H
  have S : w.Since w.heap.size w2 := S1.trans ⟨S2.os, S2.tape, S2.output, S2.size, fun j hj => S2.block j (by have := S1.size; omega)⟩
  clear S1 S2
  go_wp2
  go_ret
  exact ⟨rfl, S⟩
end Go.Proofs.Qxb6603153a
