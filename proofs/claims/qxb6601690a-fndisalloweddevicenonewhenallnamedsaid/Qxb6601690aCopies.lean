import Derived.Test.Qxb6601690aRows
import Derived.WalkKit
import Derived.WalkSpells
import Derived.WalkLawsBesides
import Derived.Lib.SliceRun
import Derived.Deep.LoopGhost
import Derived.Deep.OwnRows
import Derived.Deep.Cut
import Derived.Deep.Light
namespace Go.Proofs.Qxb6601690a
open Go.RowKit

theorem info5 : (Try.prog.info? 5).map (fun i => (i.zero, i.size, i.bytes)) = some (some (.int .u8 0), 1, 1) := by kernel_rfl
theorem info9 : (Try.prog.info? 9).map (fun i => (i.zero, i.size, i.bytes)) = some (some (.string ⟨#[]⟩), 1, 16) := by kernel_rfl

set_option maxHeartbeats 400000 in
/-- 'copyBytes' of a slice that is read: some slice; nothing that was there has turned. -/
theorem copyBytes_any (ao : Option Addr) (n c : Nat) (f : Nat → Int) (w : World) (hn : n ≤ 281474976710656)
    (hao : 0 < n → ∃ b off, ao = some ⟨b, off, none⟩ ∧ ∀ i, i < n → w.cell? ⟨b, off + i, none⟩ = some (.int .u8 (f i))) :
    Calls Try.prog 7 #[.slice ao n c] w fun e w' => (∃ ao' n' c', e = .returned (.slice ao' n' c')) ∧ w.Since w.heap.size w' := by
  have hmk := run_make_row' (P := Try.prog) 22 5 (.int .u8 0) 1 Try.underlying22 info5 rfl .i64 .i64 n (by omega) (by omega)
  have q22 : ∀ (w : World) (a : Option Addr) (n c n' c' : Nat), (binOp .eql 22 (.slice a n c) (.slice none n' c')).run Try.prog w = .ok (.bool a.isNone) w := fun w a n c n' c' => Lib.run_eql_slice_nil w _ _ a n c n' c' Try.underlying22
  go_enter Try.func7, Try.ntmps7
  go_wp2
  · go_ret
    exact ⟨⟨_, _, _, rfl⟩, World.Since.refl _ _⟩
  · clear hmk q22
    go_loopg [4] n (fun g i wr => ∃ k : Nat, k ≤ n ∧ g = n - k ∧ i = .int .i64 k ∧ wr.rowIs w.heap.size 5 n (fun j => if j < k then .int .u8 (f j) else .int .u8 0) ∧ w.Since w.heap.size wr)
    case atStart => exact ⟨0, Nat.zero_le _, rfl, rfl, (World.rowIs_made w _ n 5).congr (fun j _ => by simp), (World.Since.refl _ _).alloc (Nat.le_refl _) _⟩
    case round =>
      obtain ⟨k, hk, rfl, rfl, hrow, hs⟩ := hrel
      by_cases hlt : k < n
      · obtain ⟨b, off, rfl, hc⟩ := hao (by omega)
        have hb : b < w.heap.size := World.block_lt_of_cell? _ _ (hc k hlt)
        have h1 : wr.cell? ⟨b, off + k, none⟩ = some (.int .u8 (f k)) := by rw [hs.cell (a := ⟨b, off + k, none⟩) hb]; exact hc k hlt
        have h2 : wr.cell? ⟨w.heap.size, k, none⟩ = some (.int .u8 0) := by simpa using hrow.cell hlt
        have h3 := hrow.frozen k
        have R := hrow.set k (.int .u8 (f k))
        have S := hs.setCell (a := ⟨w.heap.size, k, none⟩) (Nat.le_refl _) (.int .u8 (f k))
        clear hc hao
        go_wp2
        go_roundg (n - (k + 1))
        case measure => go_light; omega
        case rel =>
          go_light
          refine ⟨k + 1, by omega, rfl, by go_num, R.congr (fun j _ => ?_), S⟩
          by_cases e : j = k
          · subst e; simp
          · rw [if_neg e]
            by_cases hl : j < k
            · rw [if_pos hl, if_pos (by omega)]
            · rw [if_neg hl, if_neg (by omega)]
      · go_wp2
        go_ret
        exact ⟨⟨_, _, _, rfl⟩, hs⟩

set_option maxHeartbeats 400000 in
/-- 'copyStrings': a new row of the same strings (nil stays nil). -/
theorem copyStrings_any (ao : Option Addr) (n c : Nat) (f : Nat → ByteArray) (w : World) (hn : 16 * n ≤ 281474976710656)
    (hao : 0 < n → ∃ b off, ao = some ⟨b, off, none⟩ ∧ ∀ i, i < n → w.cell? ⟨b, off + i, none⟩ = some (.string (f i))) :
    Calls Try.prog 8 #[.slice ao n c] w fun e w' => (∃ ao', e = .returned (.slice ao' n n) ∧ (0 < n → ao' = some ⟨w.heap.size, 0, none⟩ ∧ w'.rowIs w.heap.size 9 n (fun j => .string (f j)))) ∧ w.Since w.heap.size w' := by
  have hmk := run_make_row' (P := Try.prog) 23 9 (.string ⟨#[]⟩) 16 Try.underlying23 info9 rfl .i64 .i64 n (by omega) (by omega)
  have q23 : ∀ (w : World) (a : Option Addr) (n c n' c' : Nat), (binOp .eql 23 (.slice a n c) (.slice none n' c')).run Try.prog w = .ok (.bool a.isNone) w := fun w a n c n' c' => Lib.run_eql_slice_nil w _ _ a n c n' c' Try.underlying23
  cases ao with
  | none =>
    have hn0 : n = 0 := by
      by_cases h : 0 < n
      · obtain ⟨b, off, h1, _⟩ := hao h; cases h1
      · omega
    subst hn0
    go_enter Try.func8, Try.ntmps8
    go_wp2
    go_ret
    exact ⟨⟨_, rfl, fun h => absurd h (Nat.lt_irrefl _)⟩, World.Since.refl _ _⟩
  | some a =>
    go_enter Try.func8, Try.ntmps8
    go_wp2
    clear hmk q23
    go_loopg [4] n (fun g i wr => ∃ k : Nat, k ≤ n ∧ g = n - k ∧ i = .int .i64 k ∧ wr.rowIs w.heap.size 9 n (fun j => if j < k then .string (f j) else .string ⟨#[]⟩) ∧ w.Since w.heap.size wr)
    case atStart => exact ⟨0, Nat.zero_le _, rfl, rfl, (World.rowIs_made w _ n 9).congr (fun j _ => by simp), (World.Since.refl _ _).alloc (Nat.le_refl _) _⟩
    case round =>
      obtain ⟨k, hk, rfl, rfl, hrow, hs⟩ := hrel
      by_cases hlt : k < n
      · obtain ⟨b, off, h0, hc⟩ := hao (by omega)
        obtain rfl : a = ⟨b, off, none⟩ := Option.some.inj h0
        have hb : b < w.heap.size := World.block_lt_of_cell? _ _ (hc k hlt)
        have h1 : wr.cell? ⟨b, off + k, none⟩ = some (.string (f k)) := by rw [hs.cell (a := ⟨b, off + k, none⟩) hb]; exact hc k hlt
        have h2 : wr.cell? ⟨w.heap.size, k, none⟩ = some (.string ⟨#[]⟩) := by simpa using hrow.cell hlt
        have h3 := hrow.frozen k
        have R := hrow.set k (.string (f k))
        have S := hs.setCell (a := ⟨w.heap.size, k, none⟩) (Nat.le_refl _) (.string (f k))
        clear hc hao h0
        go_wp2
        go_roundg (n - (k + 1))
        case measure => go_light; omega
        case rel =>
          go_light
          refine ⟨k + 1, by omega, rfl, by go_num, R.congr (fun j _ => ?_), S⟩
          by_cases e : j = k
          · subst e; simp
          · rw [if_neg e]
            by_cases hl : j < k
            · rw [if_pos hl, if_pos (by omega)]
            · rw [if_neg hl, if_neg (by omega)]
      · go_wp2
        go_ret
        exact ⟨⟨_, rfl, fun _ => ⟨rfl, hrow.congr (fun j hj => by rw [if_pos (by omega)])⟩⟩, hs⟩
end Go.Proofs.Qxb6601690a
