import Derived.Test.Qxb6003683aDel
namespace Go.Proofs.Qxb6003683a
open Go.RowKit
open Tab (nx pos dst cnt WF upd Holds DInv)

set_option maxHeartbeats 400000 in
set_option maxRecDepth 100000 in
theorem same64 (b1 b2 c1 c2 n : Nat) (f : Nat → Int) (w : World) (hn : n ≤ 1024)
    (h1 : w.rowIs b1 2 n (fun i => .int .i64 (f i))) (h2 : w.rowIs b2 2 n (fun i => .int .i64 (f i))) :
    Calls Try.prog 22 #[.slice (some ⟨b1, 0, none⟩) n c1, .slice (some ⟨b2, 0, none⟩) n c2] w fun e w' => e = .returned (.bool true) ∧ w.Since w.heap.size w' := by
  have H1 := hide h1
  have H2 := hide h2
  clear h1 h2
  have t0 : ((n : Int) != (n : Int)) = false := by simp
  go_enter Try.func22, Try.ntmps22
  go_wp2
  clear t0
  go_loopg [5] n (fun g i wr => ∃ k : Nat, k ≤ n ∧ g = n - k ∧ i = .int .i64 k ∧ w.Since w.heap.size wr)
  case atStart => exact ⟨0, Nat.zero_le _, rfl, rfl, World.Since.refl _ _⟩
  case round =>
    obtain ⟨k, hk, rfl, rfl, hS⟩ := hrel
    by_cases hlt : k < n
    · have g1 : wr.cell? ⟨b1, k, none⟩ = some (.int .i64 (f k)) := (since_row hS (unhide H1)).cell hlt
      have g2 : wr.cell? ⟨b2, k, none⟩ = some (.int .i64 (f k)) := (since_row hS (unhide H2)).cell hlt
      have hi1 : (k : Int) < (n : Int) := by omega
      have t1 : (f k != f k) = false := by simp
      go_wp2
      go_region
      go_wp2
      go_roundg (n - (k + 1))
      case measure => go_light; omega
      case rel => go_light; exact ⟨k + 1, by omega, rfl, by go_num, hS.drew⟩
    · go_wp2
      go_ret
      exact ⟨rfl, hS⟩

set_option maxHeartbeats 400000 in
set_option maxRecDepth 100000 in
theorem same32 (b1 b2 c1 c2 n : Nat) (f : Nat → Int) (w : World) (hn : n ≤ 1024)
    (h1 : w.rowIs b1 21 n (fun i => .int .i32 (f i))) (h2 : w.rowIs b2 21 n (fun i => .int .i32 (f i))) :
    Calls Try.prog 23 #[.slice (some ⟨b1, 0, none⟩) n c1, .slice (some ⟨b2, 0, none⟩) n c2] w fun e w' => e = .returned (.bool true) ∧ w.Since w.heap.size w' := by
  have H1 := hide h1
  have H2 := hide h2
  clear h1 h2
  have t0 : ((n : Int) != (n : Int)) = false := by simp
  go_enter Try.func23, Try.ntmps23
  go_wp2
  clear t0
  go_loopg [5] n (fun g i wr => ∃ k : Nat, k ≤ n ∧ g = n - k ∧ i = .int .i64 k ∧ w.Since w.heap.size wr)
  case atStart => exact ⟨0, Nat.zero_le _, rfl, rfl, World.Since.refl _ _⟩
  case round =>
    obtain ⟨k, hk, rfl, rfl, hS⟩ := hrel
    by_cases hlt : k < n
    · have g1 : wr.cell? ⟨b1, k, none⟩ = some (.int .i32 (f k)) := (since_row hS (unhide H1)).cell hlt
      have g2 : wr.cell? ⟨b2, k, none⟩ = some (.int .i32 (f k)) := (since_row hS (unhide H2)).cell hlt
      have hi1 : (k : Int) < (n : Int) := by omega
      have t1 : (f k != f k) = false := by simp
      go_wp2
      go_region
      go_wp2
      go_roundg (n - (k + 1))
      case measure => go_light; omega
      case rel => go_light; exact ⟨k + 1, by omega, rfl, by go_num, hS.drew⟩
    · go_wp2
      go_ret
      exact ⟨rfl, hS⟩

theorem only3_since {w W W' : World} {B M a b : Nat} (T : w.Since B W) (O : Only3 M a b W W') (h1 : B ≤ M) (h2 : B ≤ a) (h3 : B ≤ b) : w.Since B W' :=
  T.trans ⟨O.os, O.tape, O.output, by rw [O.size]; exact Nat.le_refl _, fun k hk => O.block k (by omega) (by omega) (by omega)⟩
theorem since_mono {w W1 W2 : World} {B : Nat} (T : w.Since B W1) (S : W1.Since W1.heap.size W2) (hB : B ≤ W1.heap.size) : w.Since B W2 :=
  T.trans ⟨S.os, S.tape, S.output, S.size, fun j hj => S.block j (by omega)⟩

/-- WHAT THE LAW KNOWS WHEN THE TABLE HAS BEEN LAID AND FOUND WELL FORMED. -/
structure Set4 (w0 w : World) (M a b c : Nat) (n sh : Int) (I V : Nat → Int) : Prop where
  at_ : MapAt w M a b c n sh I V
  since : w0.Since w0.heap.size w
  la : w0.heap.size ≤ a
  lb : w0.heap.size ≤ b
  lm : w0.heap.size ≤ M
  ma : M ≠ a
  mb : M ≠ b
  ab : a ≠ b

theorem Set4.keep {w0 w W : World} {M a b c : Nat} {n sh : Int} {I V : Nat → Int} (h : Set4 w0 w M a b c n sh I V) (S : w.Since w.heap.size W) : Set4 w0 W M a b c n sh I V :=
  ⟨h.at_.keep S, since_since h.since S, h.la, h.lb, h.lm, h.ma, h.mb, h.ab⟩
theorem Set4.turn {w0 w W : World} {M a b c : Nat} {n n' sh : Int} {I V I' V' : Nat → Int} (h : Set4 w0 w M a b c n sh I V) (hm : MapAt W M a b c n' sh I' V') (O : Only3 M a b w W) : Set4 w0 W M a b c n' sh I' V' :=
  ⟨hm, only3_since h.since O h.lm h.la h.lb, h.la, h.lb, h.lm, h.ma, h.mb, h.ab⟩
end Go.Proofs.Qxb6003683a
