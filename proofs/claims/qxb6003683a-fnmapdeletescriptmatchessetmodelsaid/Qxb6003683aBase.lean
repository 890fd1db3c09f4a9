import Derived.Test.Qxb6003683aRows
import Derived.WalkKit
import Derived.WalkSpells
import Derived.WalkLawsBesides
import Derived.Lib.SliceRun
import Derived.Deep.LoopGhost
import Derived.Deep.OwnRows
import Derived.Deep.Cut
import Derived.Deep.Light
import Derived.Deep.QuietTactic
import Derived.BigQuiet
namespace Go.Proofs.Qxb6003683a
open Go.RowKit

theorem info2 : (Try.prog.info? 2).map (fun i => (i.zero, i.size, i.bytes)) = some (some (.int .i64 0), 1, 8) := by kernel_rfl
theorem info21 : (Try.prog.info? 21).map (fun i => (i.zero, i.size, i.bytes)) = some (some (.int .i32 0), 1, 4) := by kernel_rfl

/-- The call comes back with a bool. -/
def SomeBool (e : Ending) : Prop := ∃ b, e = .returned (.bool b)
/-- .. which is true just if Q holds. -/
def BoolIff (Q : Prop) (e : Ending) : Prop := ∃ b, e = .returned (.bool b) ∧ (b = true ↔ Q)
theorem hide {p : Prop} (h : p) : Hid p := h
theorem unhide {p : Prop} (h : Hid p) : p := h
theorem since_cell {w W : World} (T : w.Since w.heap.size W) {b o : Nat} {x : Value} (h : w.cell? ⟨b, o, none⟩ = some x) : W.cell? ⟨b, o, none⟩ = some x := by
  rw [T.cell (a := ⟨b, o, none⟩) (World.block_lt_of_cell? _ _ h)]; exact h
theorem since_since {w W1 W2 : World} (T : w.Since w.heap.size W1) (S : W1.Since W1.heap.size W2) : w.Since w.heap.size W2 :=
  T.trans ⟨S.os, S.tape, S.output, S.size, fun j hj => S.block j (by have := T.size; omega)⟩
theorem since_drewN {B : Nat} {w W : World} (T : w.Since B W) (k : Nat) : w.Since B (W.drewN k) := ⟨T.os, T.tape, T.output, T.size, T.block⟩
theorem since_row {w W : World} (T : w.Since w.heap.size W) {b t n : Nat} {f : Nat → Value} (h : w.rowIs b t n f) : W.rowIs b t n f := h.of_block (T.block _ h.lt)

set_option maxHeartbeats 400000 in
theorem clone64_any (ao : Option Addr) (n c : Nat) (f : Nat → Int) (w : World) (hn : n ≤ 1048576)
    (hao : 0 < n → ∃ b off, ao = some ⟨b, off, none⟩ ∧ ∀ i, i < n → w.cell? ⟨b, off + i, none⟩ = some (.int .i64 (f i))) :
    Calls Try.prog 12 #[.slice ao n c] w fun e w' => (∃ ao', e = .returned (.slice ao' n n) ∧ (0 < n → ao' = some ⟨w.heap.size, 0, none⟩ ∧ w'.rowIs w.heap.size 2 n (fun j => .int .i64 (f j)))) ∧ w.Since w.heap.size w' := by
  have hmk := run_make_row' (P := Try.prog) 27 2 (.int .i64 0) 8 Try.underlying27 info2 rfl .i64 .i64 n (by omega) (by omega)
  have q27 : ∀ (w : World) (a : Option Addr) (n c n' c' : Nat), (binOp .eql 27 (.slice a n c) (.slice none n' c')).run Try.prog w = .ok (.bool a.isNone) w := fun w a n c n' c' => Lib.run_eql_slice_nil w _ _ a n c n' c' Try.underlying27
  cases ao with
  | none =>
    have hn0 : n = 0 := by
      by_cases h : 0 < n
      · obtain ⟨b, off, h1, _⟩ := hao h; cases h1
      · omega
    subst hn0
    go_enter Try.func12, Try.ntmps12
    go_wp2
    go_ret
    exact ⟨⟨_, rfl, fun h => absurd h (Nat.lt_irrefl _)⟩, World.Since.refl _ _⟩
  | some a =>
    go_enter Try.func12, Try.ntmps12
    go_wp2
    clear hmk q27
    go_loopg [4] n (fun g i wr => ∃ k : Nat, k ≤ n ∧ g = n - k ∧ i = .int .i64 k ∧ wr.rowIs w.heap.size 2 n (fun j => if j < k then .int .i64 (f j) else .int .i64 0) ∧ w.Since w.heap.size wr)
    case atStart => exact ⟨0, Nat.zero_le _, rfl, rfl, (World.rowIs_made w _ n 2).congr (fun j _ => by simp), (World.Since.refl _ _).alloc (Nat.le_refl _) _⟩
    case round =>
      obtain ⟨k, hk, rfl, rfl, hrow, hs⟩ := hrel
      by_cases hlt : k < n
      · obtain ⟨b, off, h0, hc⟩ := hao (by omega)
        obtain rfl : a = ⟨b, off, none⟩ := Option.some.inj h0
        have hb : b < w.heap.size := World.block_lt_of_cell? _ _ (hc k hlt)
        have h1 : wr.cell? ⟨b, off + k, none⟩ = some (.int .i64 (f k)) := by rw [hs.cell (a := ⟨b, off + k, none⟩) hb]; exact hc k hlt
        have h2 : wr.cell? ⟨w.heap.size, k, none⟩ = some (.int .i64 0) := by simpa using hrow.cell hlt
        have h3 := hrow.frozen k
        have R := hrow.set k (.int .i64 (f k))
        have S := hs.setCell (a := ⟨w.heap.size, k, none⟩) (Nat.le_refl _) (.int .i64 (f k))
        clear hc hao h0
        go_wp2
        go_roundg (n - (k + 1))
        case measure => go_light; omega
        case rel =>
          go_light
          refine ⟨k + 1, by omega, rfl, by go_num, R.congr (fun j _ => ?_), S⟩
          by_cases e : j = k
          · subst e; simp
          · rw [if_neg e]
            by_cases hl : j < k
            · rw [if_pos hl, if_pos (by omega)]
            · rw [if_neg hl, if_neg (by omega)]
      · go_wp2
        go_ret
        exact ⟨⟨_, rfl, fun _ => ⟨rfl, hrow.congr (fun j hj => by rw [if_pos (by omega)])⟩⟩, hs⟩

set_option maxHeartbeats 400000 in
theorem clone32_any (ao : Option Addr) (n c : Nat) (f : Nat → Int) (w : World) (hn : n ≤ 1048576)
    (hao : 0 < n → ∃ b off, ao = some ⟨b, off, none⟩ ∧ ∀ i, i < n → w.cell? ⟨b, off + i, none⟩ = some (.int .i32 (f i))) :
    Calls Try.prog 13 #[.slice ao n c] w fun e w' => (∃ ao', e = .returned (.slice ao' n n) ∧ (0 < n → ao' = some ⟨w.heap.size, 0, none⟩ ∧ w'.rowIs w.heap.size 21 n (fun j => .int .i32 (f j)))) ∧ w.Since w.heap.size w' := by
  have hmk := run_make_row' (P := Try.prog) 28 21 (.int .i32 0) 4 Try.underlying28 info21 rfl .i64 .i64 n (by omega) (by omega)
  have q28 : ∀ (w : World) (a : Option Addr) (n c n' c' : Nat), (binOp .eql 28 (.slice a n c) (.slice none n' c')).run Try.prog w = .ok (.bool a.isNone) w := fun w a n c n' c' => Lib.run_eql_slice_nil w _ _ a n c n' c' Try.underlying28
  cases ao with
  | none =>
    have hn0 : n = 0 := by
      by_cases h : 0 < n
      · obtain ⟨b, off, h1, _⟩ := hao h; cases h1
      · omega
    subst hn0
    go_enter Try.func13, Try.ntmps13
    go_wp2
    go_ret
    exact ⟨⟨_, rfl, fun h => absurd h (Nat.lt_irrefl _)⟩, World.Since.refl _ _⟩
  | some a =>
    go_enter Try.func13, Try.ntmps13
    go_wp2
    clear hmk q28
    go_loopg [4] n (fun g i wr => ∃ k : Nat, k ≤ n ∧ g = n - k ∧ i = .int .i64 k ∧ wr.rowIs w.heap.size 21 n (fun j => if j < k then .int .i32 (f j) else .int .i32 0) ∧ w.Since w.heap.size wr)
    case atStart => exact ⟨0, Nat.zero_le _, rfl, rfl, (World.rowIs_made w _ n 21).congr (fun j _ => by simp), (World.Since.refl _ _).alloc (Nat.le_refl _) _⟩
    case round =>
      obtain ⟨k, hk, rfl, rfl, hrow, hs⟩ := hrel
      by_cases hlt : k < n
      · obtain ⟨b, off, h0, hc⟩ := hao (by omega)
        obtain rfl : a = ⟨b, off, none⟩ := Option.some.inj h0
        have hb : b < w.heap.size := World.block_lt_of_cell? _ _ (hc k hlt)
        have h1 : wr.cell? ⟨b, off + k, none⟩ = some (.int .i32 (f k)) := by rw [hs.cell (a := ⟨b, off + k, none⟩) hb]; exact hc k hlt
        have h2 : wr.cell? ⟨w.heap.size, k, none⟩ = some (.int .i32 0) := by simpa using hrow.cell hlt
        have h3 := hrow.frozen k
        have R := hrow.set k (.int .i32 (f k))
        have S := hs.setCell (a := ⟨w.heap.size, k, none⟩) (Nat.le_refl _) (.int .i32 (f k))
        clear hc hao h0
        go_wp2
        go_roundg (n - (k + 1))
        case measure => go_light; omega
        case rel =>
          go_light
          refine ⟨k + 1, by omega, rfl, by go_num, R.congr (fun j _ => ?_), S⟩
          by_cases e : j = k
          · subst e; simp
          · rw [if_neg e]
            by_cases hl : j < k
            · rw [if_pos hl, if_pos (by omega)]
            · rw [if_neg hl, if_neg (by omega)]
      · go_wp2
        go_ret
        exact ⟨⟨_, rfl, fun _ => ⟨rfl, hrow.congr (fun j hj => by rw [if_pos (by omega)])⟩⟩, hs⟩

set_option maxHeartbeats 400000 in
theorem bytes11 (a0 a1 : Option Addr) (n0 c0 n1 c1 : Nat) (x y z : Int) (w : World) :
    Calls Try.prog 11 #[.slice a0 n0 c0, .slice a1 n1 c1, .int .i64 x, .int .u64 y, .int .i64 z] w fun e w' => SomeBool e ∧ w' = w := by
  go_enter Try.func11, Try.ntmps11
  go_wp2
  all_goals (go_ret; exact ⟨⟨_, rfl⟩, rfl⟩)
set_option maxHeartbeats 400000 in
theorem bytes20 (a0 a1 : Option Addr) (n0 c0 n1 c1 : Nat) (x y z : Int) (w : World) :
    Calls Try.prog 20 #[.slice a0 n0 c0, .slice a1 n1 c1, .int .i64 x, .int .u64 y, .int .i64 z] w fun e w' => SomeBool e ∧ w' = w := by
  go_enter Try.func20, Try.ntmps20
  go_wp2
  all_goals (go_ret; exact ⟨⟨_, rfl⟩, rfl⟩)
set_option maxHeartbeats 400000 in
theorem bytes17 (a0 a1 a2 : Option Addr) (n0 c0 n1 c1 n2 c2 : Nat) (x y : Int) (w : World) :
    Calls Try.prog 17 #[.slice a0 n0 c0, .slice a1 n1 c1, .int .i64 x, .int .u64 y, .slice a2 n2 c2] w fun e w' => SomeBool e ∧ w' = w := by
  go_enter Try.func17, Try.ntmps17
  go_wp2
  all_goals (go_ret; exact ⟨⟨_, rfl⟩, rfl⟩)

/-- The four cells of a Map. -/
def mf (ia va : Option Addr) (c cv : Nat) (n sh : Int) : Nat → Value := fun i => if i = 0 then .slice ia c c else if i = 1 then .slice va cv cv else if i = 2 then .int .i64 n else .int .u64 sh

set_option maxHeartbeats 400000 in
theorem from_any (ia va : Option Addr) (c cv : Nat) (n sh : Int) (w : World) :
    Calls Try.prog 14 #[.slice ia c c, .slice va cv cv, .int .i64 n, .int .u64 sh] w fun e w' => e = .returned (.pointer (some ⟨w.heap.size, 0, none⟩)) ∧ w'.rowIs w.heap.size 47 4 (mf ia va c cv n sh) ∧ w.Since w.heap.size w' := by
  go_enter Try.func14, Try.ntmps14
  go_wp2
  go_ret
  refine ⟨rfl, ?_, (World.Since.refl _ _).alloc (Nat.le_refl _) _⟩
  refine World.rowIs_alloc w #[.slice ia c c, .slice va cv cv, .int .i64 n, .int .u64 sh] 47 _ ?_
  intro i hi
  match i, hi with
  | 0, _ => rfl
  | 1, _ => rfl
  | 2, _ => rfl
  | 3, _ => rfl

set_option maxHeartbeats 400000 in
theorem cells_any (M : Nat) (ia va : Option Addr) (c cv : Nat) (n sh : Int) (w : World) (hm : w.rowIs M 47 4 (mf ia va c cv n sh)) :
    Calls Try.prog 21 #[.pointer (some ⟨M, 0, none⟩)] w fun e w' => e = .returned (.tuple #[.slice ia c c, .slice va cv cv, .int .i64 n, .int .u64 sh]) ∧ w.Since w.heap.size w' := by
  have c0 : w.cell? ⟨M, 0, none⟩ = some (.slice ia c c) := hm.cell (by omega)
  have c1 : w.cell? ⟨M, 1, none⟩ = some (.slice va cv cv) := hm.cell (by omega)
  have c2 : w.cell? ⟨M, 2, none⟩ = some (.int .i64 n) := hm.cell (by omega)
  have c3 : w.cell? ⟨M, 3, none⟩ = some (.int .u64 sh) := hm.cell (by omega)
  clear hm
  go_enter Try.func21, Try.ntmps21
  go_wp2
  go_quiet (fail)
  go_wp2
  exact bodyPost_ret (v := .tuple #[.slice ia c c, .slice va cv cv, .int .i64 n, .int .u64 sh]) (by simp [results, Try.results21, go_sem]) rfl ⟨rfl, since_drewN (World.Since.refl _ _) _⟩

set_option maxHeartbeats 400000 in
theorem len_any (M : Nat) (ia va : Option Addr) (c cv : Nat) (n sh : Int) (w : World) (hm : w.rowIs M 47 4 (mf ia va c cv n sh)) :
    Calls Try.prog 19 #[.pointer (some ⟨M, 0, none⟩)] w fun e w' => e = .returned (.int .i64 n) ∧ w' = w := by
  have c2 : w.cell? ⟨M, 2, none⟩ = some (.int .i64 n) := hm.cell (by omega)
  clear hm
  go_enter Try.func19, Try.ntmps19
  go_wp2
  go_ret
  exact ⟨rfl, rfl⟩

/-- The table's size and its shift: a power of two from 8 to 1024. -/
def IsC (c : Nat) (sh : Int) : Prop := (c = 8 ∧ sh = 61) ∨ (c = 16 ∧ sh = 60) ∨ (c = 32 ∧ sh = 59) ∨ (c = 64 ∧ sh = 58) ∨ (c = 128 ∧ sh = 57) ∨ (c = 256 ∧ sh = 56) ∨ (c = 512 ∧ sh = 55) ∨ (c = 1024 ∧ sh = 54)

/-- The home of an id. -/
def homeN (sh x : Int) : Nat := (IntKind.u64.wrap (IntKind.u64.wrap x * 11400714819323198485) / 2 ^ sh.toNat).toNat

theorem wrap_u64_bd (x : Int) : 0 ≤ IntKind.u64.wrap x ∧ IntKind.u64.wrap x < 18446744073709551616 := by
  have : IntKind.u64.wrap x = x % 18446744073709551616 := by simp [IntKind.wrap, IntKind.bits, IntKind.signed]
  omega

theorem home_num {c : Nat} {sh : Int} (h : IsC c sh) (x : Int) : wrap64 (IntKind.u64.wrap (IntKind.u64.wrap x * 11400714819323198485) / 2 ^ sh.toNat) = (homeN sh x : Int) ∧ homeN sh x < c := by
  have hb := wrap_u64_bd (IntKind.u64.wrap x * 11400714819323198485)
  unfold homeN
  generalize IntKind.u64.wrap (IntKind.u64.wrap x * 11400714819323198485) = u at hb
  have hw : ∀ z : Int, 0 ≤ z → z < 1025 → wrap64 z = z := fun z h1 h2 => by unfold wrap64; omega
  rcases h with ⟨rfl, rfl⟩ | ⟨rfl, rfl⟩ | ⟨rfl, rfl⟩ | ⟨rfl, rfl⟩ | ⟨rfl, rfl⟩ | ⟨rfl, rfl⟩ | ⟨rfl, rfl⟩ | ⟨rfl, rfl⟩
  · have e : (2 : Int) ^ (61 : Int).toNat = 2305843009213693952 := by decide
    rw [e, hw _ (by omega) (by omega)]; omega
  · have e : (2 : Int) ^ (60 : Int).toNat = 1152921504606846976 := by decide
    rw [e, hw _ (by omega) (by omega)]; omega
  · have e : (2 : Int) ^ (59 : Int).toNat = 576460752303423488 := by decide
    rw [e, hw _ (by omega) (by omega)]; omega
  · have e : (2 : Int) ^ (58 : Int).toNat = 288230376151711744 := by decide
    rw [e, hw _ (by omega) (by omega)]; omega
  · have e : (2 : Int) ^ (57 : Int).toNat = 144115188075855872 := by decide
    rw [e, hw _ (by omega) (by omega)]; omega
  · have e : (2 : Int) ^ (56 : Int).toNat = 72057594037927936 := by decide
    rw [e, hw _ (by omega) (by omega)]; omega
  · have e : (2 : Int) ^ (55 : Int).toNat = 36028797018963968 := by decide
    rw [e, hw _ (by omega) (by omega)]; omega
  · have e : (2 : Int) ^ (54 : Int).toNat = 18014398509481984 := by decide
    rw [e, hw _ (by omega) (by omega)]; omega

theorem IsC.bd {c : Nat} {sh : Int} (h : IsC c sh) : 54 ≤ sh ∧ sh ≤ 61 ∧ 8 ≤ c ∧ c ≤ 1024 := by
  unfold IsC at h; omega

theorem ret_int {k : IntKind} {a b : Int} (h : a = b) : Ending.returned (.int k a) = .returned (.int k b) := by rw [h]

set_option maxHeartbeats 400000 in
theorem home_any (M : Nat) (ia va : Option Addr) (c cv c' : Nat) (n sh x : Int) (w : World) (hm : w.rowIs M 47 4 (mf ia va c cv n sh)) (hC : IsC c' sh) :
    Calls Try.prog 27 #[.pointer (some ⟨M, 0, none⟩), .int .i64 x] w fun e w' => e = .returned (.int .i64 (homeN sh x)) ∧ w' = w := by
  have c3 : w.cell? ⟨M, 3, none⟩ = some (.int .u64 sh) := hm.cell (by omega)
  have h0 : 0 ≤ sh := by have := hC.bd; omega
  have h1 : sh ≤ 63 := by have := hC.bd; omega
  have HC := hide hC
  clear hm hC
  go_enter Try.func27, Try.ntmps27
  go_wp2
  go_ret
  exact ⟨ret_int (home_num (unhide HC) x).1, rfl⟩

set_option maxHeartbeats 400000 in
theorem maphome_any (M : Nat) (ia va : Option Addr) (c cv c' : Nat) (n sh x : Int) (w : World) (hm : w.rowIs M 47 4 (mf ia va c cv n sh)) (hC : IsC c' sh) :
    Calls Try.prog 26 #[.pointer (some ⟨M, 0, none⟩), .int .i64 x] w fun e w' => e = .returned (.int .i64 (homeN sh x)) ∧ w' = w := by
  have H := hide hm
  have HC := hide hC
  clear hm hC
  go_enter Try.func26, Try.ntmps26
  go_wp2_with fail
  refine (home_any M ia va c cv c' n sh x _ (unhide H) (unhide HC)).mono ?_
  rintro e w1 ⟨rfl, hw⟩
  subst w1
  clear H HC
  go_wp2
  go_ret
  exact ⟨rfl, rfl⟩

theorem pw_num : ∀ k : Nat, k < 11 → wrap64 ((2 : Int) ^ k) = ((2 ^ k : Nat) : Int) := by decide +kernel
theorem pw_mono : ∀ k : Nat, k < 11 → ∀ K : Nat, K < 11 → (2 ^ k < 2 ^ K ↔ k < K) := by decide +kernel
theorem pw_lt (k K c : Nat) (hk : k ≤ 10) (hK : K ≤ 10) (hc : c = 2 ^ K) (h : wrap64 ((2 : Int) ^ k) < (c : Int)) : k < K := by
  rw [pw_num k (by omega), hc] at h
  exact (pw_mono k (by omega) K (by omega)).1 (by omega)
theorem pw_ge (k K c : Nat) (hk : k ≤ 10) (hK : K ≤ 10) (hc : c = 2 ^ K) (h : (c : Int) ≤ wrap64 ((2 : Int) ^ k)) : K ≤ k := by
  rw [pw_num k (by omega), hc] at h
  have := (pw_mono k (by omega) K (by omega)).2
  by_cases e : k < K
  · have := this e; omega
  · omega

theorem pow2_iff : ∀ c : Nat, c < 1025 → 8 ≤ c → (bits .and .i64 (c : Int) ((c : Int) - 1) = 0 ↔ (c = 8 ∨ c = 16 ∨ c = 32 ∨ c = 64 ∨ c = 128 ∨ c = 256 ∨ c = 512 ∨ c = 1024)) := by decide +kernel

set_option maxHeartbeats 400000 in
set_option maxRecDepth 100000 in
theorem log2_any (c K : Nat) (w : World) (hK : K ≤ 10) (hc : c = 2 ^ K) (h8 : 8 ≤ c) (h1024 : c ≤ 1024) (hp : bits .and .i64 (c : Int) ((c : Int) - 1) = 0) :
    Calls Try.prog 25 #[.int .i64 c] w fun e w' => e = .returned (.tuple #[.int .i64 K, .bool true]) ∧ w' = w := by
  have HC := hide hc
  clear hc
  have h0 : decide ((c : Int) ≤ 0) = false := by simp; omega
  go_enter Try.func25, Try.ntmps25
  go_wp2
  go_loopg [4] K (fun g i wr => ∃ k : Nat, k ≤ K ∧ g = K - k ∧ i = .int .i64 k ∧ wr = w)
  case atStart => exact ⟨0, Nat.zero_le _, rfl, rfl, rfl⟩
  case round =>
    obtain ⟨k, hk, rfl, rfl, rfl⟩ := hrel
    have hk0 : (0 : Int) ≤ (k : Int) := by omega
    have hk1 : (k : Int) ≤ 10 := by omega
    go_wp2
    · go_roundg (K - (k + 1))
      case measure =>
        go_light
        have := pw_lt k K c (by omega) hK (unhide HC) (by assumption)
        omega
      case rel =>
        go_light
        have := pw_lt k K c (by omega) hK (unhide HC) (by assumption)
        exact ⟨k + 1, by omega, rfl, by go_num, rfl⟩
    · have e : k = K := by
        have := pw_ge k K c (by omega) hK (unhide HC) (by assumption)
        omega
      subst e
      go_ret2
      exact ⟨rfl, rfl⟩

set_option maxHeartbeats 400000 in
set_option maxRecDepth 100000 in
theorem log2_no (c : Nat) (w : World) (h8 : 8 ≤ c) (h1024 : c ≤ 1024) (hp : ¬ bits .and .i64 (c : Int) ((c : Int) - 1) = 0) :
    Calls Try.prog 25 #[.int .i64 c] w fun e w' => e = .returned (.tuple #[.int .i64 0, .bool false]) ∧ w' = w := by
  have h0 : decide ((c : Int) ≤ 0) = false := by simp; omega
  have hp' : (bits .and .i64 (c : Int) ((c : Int) - 1) != 0) = true := by simpa using hp
  go_enter Try.func25, Try.ntmps25
  go_wp2
  go_ret2
  exact ⟨rfl, rfl⟩
end Go.Proofs.Qxb6003683a
