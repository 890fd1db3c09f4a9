import Derived.Test.Qxb6601690aCopies
namespace Go.Proofs.Qxb6601690a
open Go.RowKit

/-- The call comes back with a bool. -/
def SomeBool (e : Ending) : Prop := ∃ b, e = .returned (.bool b)
/-- .. and where it is true, Q holds. -/
def BoolIf (Q : Prop) (e : Ending) : Prop := ∃ b, e = .returned (.bool b) ∧ (b = true → Q)

theorem bnd_step {sn : Nat → Nat} {k : Nat} (h : Hid (∀ i, i < k → sn i ≤ 1048576)) (hk : sn k ≤ 1048576) : Hid (∀ i, i < k + 1 → sn i ≤ 1048576) := fun i hi => by
  by_cases e : i = k
  · subst e; exact hk
  · exact h i (by omega)

set_option maxHeartbeats 4000000 in
set_option maxRecDepth 100000 in
theorem zzBytes_any (s : ByteArray) (a1 : Option Addr) (n1 c1 : Nat) (a2 : Option Addr) (n2 c2 : Nat) (a3 : Option Addr) (n3 c3 : Nat) (a4 : Option Addr) (n4 c4 : Nat)
    (f2 f4 : Nat → ByteArray) (p : Nat → Option Addr) (sa : Nat → Option Addr) (sn sc : Nat → Nat) (w : World)
    (m2 : n2 ≤ 9223372036854775807) (m3 : n3 ≤ 9223372036854775807) (m4 : n4 ≤ 9223372036854775807)
    (h2 : 0 < n2 → ∃ b off, a2 = some ⟨b, off, none⟩ ∧ ∀ i, i < n2 → w.cell? ⟨b, off + i, none⟩ = some (.string (f2 i)))
    (h3 : 0 < n3 → ∃ b off, a3 = some ⟨b, off, none⟩ ∧ ∀ i, i < n3 → w.cell? ⟨b, off + i * 2, none⟩ = some (.pointer (p i)) ∧ w.cell? ⟨b, off + i * 2 + 1, none⟩ = some (.slice (sa i) (sn i) (sc i)))
    (hp : ∀ i, i < n3 → p i = none ∨ ∃ b o s, p i = some ⟨b, o, none⟩ ∧ w.cell? ⟨b, o, none⟩ = some (.string s))
    (h4 : 0 < n4 → ∃ b off, a4 = some ⟨b, off, none⟩ ∧ ∀ i, i < n4 → w.cell? ⟨b, off + i, none⟩ = some (.string (f4 i))) :
    Calls Try.prog 13 #[.string s, .slice a1 n1 c1, .slice a2 n2 c2, .slice a3 n3 c3, .slice a4 n4 c4] w fun e w' => BoolIf (∀ i, i < n3 → sn i ≤ 1048576) e ∧ w' = w := by
  go_enter Try.func13, Try.ntmps13
  go_wp2
  all_goals first | (go_ret; exact ⟨⟨false, rfl, fun h => by cases h⟩, rfl⟩) | skip
  go_loop [11, 12] (fun t i => ∃ (k : Nat) (z : Int), k ≤ n2 ∧ i = .int .i64 k ∧ t = .int .i64 z) (fun _ i => n2 - (intOf i).toNat)
  case atStart => exact ⟨0, _, Nat.zero_le _, rfl, rfl⟩
  case round =>
    obtain ⟨k, z, hk, rfl, rfl⟩ := hrel
    by_cases hlt : k < n2
    · obtain ⟨b, off, rfl, hc⟩ := h2 (by omega)
      have g1 := hc k hlt
      clear hc h2 h3 h4 hp
      go_wp2
      all_goals first | (go_ret; exact ⟨⟨false, rfl, fun h => by cases h⟩, rfl⟩) | skip
      go_round
      case rel => exact ⟨k + 1, _, by omega, by go_num, rfl⟩
      case measure => simp [intOf]; omega
    · clear h2
      go_wp2
      all_goals first | (go_ret; exact ⟨⟨false, rfl, fun h => by cases h⟩, rfl⟩) | skip
      go_loop [11, 13] (fun t i => ∃ (k : Nat) (z : Int), k ≤ n3 ∧ i = .int .i64 k ∧ t = .int .i64 z ∧ Hid (∀ i, i < k → sn i ≤ 1048576)) (fun _ i => n3 - (intOf i).toNat)
      case atStart => exact ⟨0, _, Nat.zero_le _, rfl, rfl, fun i hi => absurd hi (Nat.not_lt_zero _)⟩
      case round =>
        obtain ⟨k3, z3, hk3, rfl, rfl, HB⟩ := hrel
        by_cases hlt3 : k3 < n3
        · obtain ⟨b, off, rfl, hc⟩ := h3 (by omega)
          have g1 := (hc k3 hlt3).1
          have g2 := (hc k3 hlt3).2
          rcases hp k3 hlt3 with hpk | ⟨pb, po, ps, hpk, hps⟩
          · rw [hpk] at g1
            clear hc h3 h4 hp hpk
            go_wp2
            all_goals first | (go_ret; exact ⟨⟨false, rfl, fun h => by cases h⟩, rfl⟩) | skip
            go_round
            case rel => exact ⟨k3 + 1, _, by omega, by go_num, rfl, bnd_step HB (by omega)⟩
            case measure => simp [intOf]; omega
          · rw [hpk] at g1
            clear hc h3 h4 hp hpk
            go_wp2
            all_goals first | (go_ret; exact ⟨⟨false, rfl, fun h => by cases h⟩, rfl⟩) | skip
            go_round
            case rel => exact ⟨k3 + 1, _, by omega, by go_num, rfl, bnd_step HB (by omega)⟩
            case measure => simp [intOf]; omega
        · clear h3 hp
          obtain rfl : k3 = n3 := by omega
          go_wp2
          all_goals first | (go_ret; exact ⟨⟨false, rfl, fun h => by cases h⟩, rfl⟩) | skip
          go_loop [11, 14] (fun t i => ∃ (k : Nat) (z : Int), k ≤ n4 ∧ i = .int .i64 k ∧ t = .int .i64 z) (fun _ i => n4 - (intOf i).toNat)
          case atStart => exact ⟨0, _, Nat.zero_le _, rfl, rfl⟩
          case round =>
            obtain ⟨k4, z4, hk4, rfl, rfl⟩ := hrel
            by_cases hlt4 : k4 < n4
            · obtain ⟨b, off, rfl, hc⟩ := h4 (by omega)
              have g1 := hc k4 hlt4
              clear hc h4
              go_wp2
              all_goals first | (go_ret; exact ⟨⟨false, rfl, fun h => by cases h⟩, rfl⟩) | skip
              go_round
              case rel => exact ⟨k4 + 1, _, by omega, by go_num, rfl⟩
              case measure => simp [intOf]; omega
            · go_wp2
              go_ret
              exact ⟨⟨true, rfl, fun _ => HB.out⟩, rfl⟩

set_option maxHeartbeats 4000000 in
set_option maxRecDepth 100000 in
theorem fits_any (s : ByteArray) (a1 : Option Addr) (n1 c1 : Nat) (a2 : Option Addr) (n2 c2 : Nat) (a3 : Option Addr) (n3 c3 : Nat) (a4 : Option Addr) (n4 c4 : Nat)
    (f2 f4 : Nat → ByteArray) (p : Nat → Option Addr) (sa : Nat → Option Addr) (sn sc : Nat → Nat) (w : World)
    (m2 : n2 ≤ 9223372036854775807) (m3 : n3 ≤ 9223372036854775807) (m4 : n4 ≤ 9223372036854775807)
    (h2 : 0 < n2 → ∃ b off, a2 = some ⟨b, off, none⟩ ∧ ∀ i, i < n2 → w.cell? ⟨b, off + i, none⟩ = some (.string (f2 i)))
    (h3 : 0 < n3 → ∃ b off, a3 = some ⟨b, off, none⟩ ∧ ∀ i, i < n3 → w.cell? ⟨b, off + i * 2, none⟩ = some (.pointer (p i)) ∧ w.cell? ⟨b, off + i * 2 + 1, none⟩ = some (.slice (sa i) (sn i) (sc i)))
    (hp : ∀ i, i < n3 → p i = none ∨ ∃ b o s, p i = some ⟨b, o, none⟩ ∧ w.cell? ⟨b, o, none⟩ = some (.string s))
    (h4 : 0 < n4 → ∃ b off, a4 = some ⟨b, off, none⟩ ∧ ∀ i, i < n4 → w.cell? ⟨b, off + i, none⟩ = some (.string (f4 i))) :
    Calls Try.prog 6 #[.string s, .slice a1 n1 c1, .slice a2 n2 c2, .slice a3 n3 c3, .slice a4 n4 c4] w fun e w' => SomeBool e ∧ w' = w := by
  go_enter Try.func6, Try.ntmps6
  go_wp2
  all_goals first | (go_ret; exact ⟨⟨_, rfl⟩, rfl⟩) | skip
  go_loop [11, 12] (fun t i => ∃ (k : Nat) (z : Int), k ≤ n2 ∧ i = .int .i64 k ∧ t = .int .i64 z) (fun _ i => n2 - (intOf i).toNat)
  case atStart => exact ⟨0, _, Nat.zero_le _, rfl, rfl⟩
  case round =>
    obtain ⟨k, z, hk, rfl, rfl⟩ := hrel
    by_cases hlt : k < n2
    · obtain ⟨b, off, rfl, hc⟩ := h2 (by omega)
      have g1 := hc k hlt
      clear hc h2 h3 h4 hp
      go_wp2
      all_goals first | (go_ret; exact ⟨⟨_, rfl⟩, rfl⟩) | skip
      go_round
      case rel => exact ⟨k + 1, _, by omega, by go_num, rfl⟩
      case measure => simp [intOf]; omega
    · clear h2
      go_wp2
      all_goals first | (go_ret; exact ⟨⟨_, rfl⟩, rfl⟩) | skip
      go_loop [11, 13] (fun t i => ∃ (k : Nat) (z : Int), k ≤ n3 ∧ i = .int .i64 k ∧ t = .int .i64 z) (fun _ i => n3 - (intOf i).toNat)
      case atStart => exact ⟨0, _, Nat.zero_le _, rfl, rfl⟩
      case round =>
        obtain ⟨k3, z3, hk3, rfl, rfl⟩ := hrel
        by_cases hlt3 : k3 < n3
        · obtain ⟨b, off, rfl, hc⟩ := h3 (by omega)
          have g1 := (hc k3 hlt3).1
          have g2 := (hc k3 hlt3).2
          rcases hp k3 hlt3 with hpk | ⟨pb, po, ps, hpk, hps⟩
          · rw [hpk] at g1
            clear hc h3 h4 hp hpk
            go_wp2
            all_goals first | (go_ret; exact ⟨⟨_, rfl⟩, rfl⟩) | skip
            go_round
            case rel => exact ⟨k3 + 1, _, by omega, by go_num, rfl⟩
            case measure => simp [intOf]; omega
          · rw [hpk] at g1
            clear hc h3 h4 hp hpk
            go_wp2
            all_goals first | (go_ret; exact ⟨⟨_, rfl⟩, rfl⟩) | skip
            go_round
            case rel => exact ⟨k3 + 1, _, by omega, by go_num, rfl⟩
            case measure => simp [intOf]; omega
        · clear h3 hp
          go_wp2
          all_goals first | (go_ret; exact ⟨⟨_, rfl⟩, rfl⟩) | skip
          go_loop [11, 14] (fun t i => ∃ (k : Nat) (z : Int), k ≤ n4 ∧ i = .int .i64 k ∧ t = .int .i64 z) (fun _ i => n4 - (intOf i).toNat)
          case atStart => exact ⟨0, _, Nat.zero_le _, rfl, rfl⟩
          case round =>
            obtain ⟨k4, z4, hk4, rfl, rfl⟩ := hrel
            by_cases hlt4 : k4 < n4
            · obtain ⟨b, off, rfl, hc⟩ := h4 (by omega)
              have g1 := hc k4 hlt4
              clear hc h4
              go_wp2
              all_goals first | (go_ret; exact ⟨⟨_, rfl⟩, rfl⟩) | skip
              go_round
              case rel => exact ⟨k4 + 1, _, by omega, by go_num, rfl⟩
              case measure => simp [intOf]; omega
            · go_wp2
              all_goals (go_ret; exact ⟨⟨_, rfl⟩, rfl⟩)
end Go.Proofs.Qxb6601690a
