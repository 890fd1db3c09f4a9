import Derived.Test.Qxb6612344aDoorRows
import Derived.WalkKit
import Derived.WalkSpells
import Derived.WalkLawsBesides
import Derived.Lib.SliceRun
import Derived.Deep.LoopGhost
import Derived.Deep.OwnRows
import Derived.Deep.Cut
import Derived.Deep.Light
import Derived.Deep.QuietTactic
import Derived.BigQuiet
namespace Go.Proofs.Qxb6612344aDoor
open Go.RowKit

theorem info5 : (Tryd.prog.info? 5).map (fun i => (i.zero, i.size, i.bytes)) = some (some (.int .u8 0), 1, 1) := by kernel_rfl

set_option maxHeartbeats 400000 in
set_option maxRecDepth 100000 in
theorem clone_any (b off c : Nat) (zs : List Int) (w : World) (hn : zs.length ≤ 1000) (h0 : 0 < zs.length)
    (hc : ∀ i, i < zs.length → w.cell? ⟨b, off + i, none⟩ = some (.int .u8 (zs.getD i 0))) :
    Calls Tryd.prog 9 #[.slice (some ⟨b, off, none⟩) zs.length c] w fun e w' => (∃ g cap, e = .returned (.slice (some ⟨g, 0, none⟩) zs.length cap) ∧ w'.ownsRow w.heap.size 5 1 (.slice (some ⟨g, 0, none⟩) zs.length cap) zs.length (zs.map (Value.int .u8))) ∧ w.Since w.heap.size w' := by
  have q24 : ∀ (w : World) (a : Option Addr) (n c n' c' : Nat), (binOp .eql 24 (.slice a n c) (.slice none n' c')).run Tryd.prog w = .ok (.bool a.isNone) w := fun w a n c n' c' => Lib.run_eql_slice_nil w _ _ a n c n' c' Tryd.underlying24
  obtain ⟨i0, hi, hz0, hz1, hz2⟩ := info_parts info5
  have HOWN : Hid ((w.alloc (.cells #[] 5)).ownsRow w.heap.size 5 1 (.slice (some ⟨w.heap.size, 0, none⟩) 0 0) 0 []) := World.ownsRow_made (base := w.heap.size) (e := 5) (size := 1) w #[] 0 (Nat.le_refl _) (Nat.zero_le _) rfl
  have HC : Hid (∀ j u, (zs.map (Value.int .u8))[j]? = some u → (w.alloc (.cells #[] 5)).cell? ((⟨b, off, none⟩ : Addr).add j) = some u) := by
    intro j u hj
    have hjl : j < zs.length := by
      have := (List.getElem?_eq_some_iff.1 hj).1
      simpa using this
    have e : u = .int .u8 (zs.getD j 0) := by
      rw [List.getElem?_map, List.getElem?_eq_getElem hjl] at hj
      have := (Option.some.inj hj).symm
      simpa [List.getD, hjl] using this
    have ea : (⟨b, off, none⟩ : Addr).add j = ⟨b, off + j, none⟩ := by unfold Addr.add; split <;> simp_all
    rw [ea, e, World.cell?_alloc_old _ _ _ (by have := World.block_lt_of_cell? _ _ (hc j hjl); exact Nat.ne_of_lt this)]
    exact hc j hjl
  clear hc
  go_enter Tryd.func9, Tryd.ntmps9
  go_wp2_with (at_builtin; refine wpList_append_own _ rfl _ _ 24 rfl w.heap.size 5 i0 (.int .u8 0) 1 1 Tryd.underlying24 hi hz0 hz1 hz2 rfl (by decide) _ _ _ rfl HOWN.out ⟨b, off, none⟩ zs.length c (zs.map (Value.int .u8)) rfl (by simp) HC.out (ints_oneCell _ _) (by unfold maxLen; omega) (by omega) (by simp) ?_)
  intro v' w1 hown1 hgrow1 hnil
  obtain ⟨g, cap, rfl⟩ : ∃ g cap, v' = .slice (some ⟨g, 0, none⟩) zs.length cap := by
    rcases hown1.2 with ⟨h, _⟩ | ⟨g, cap, _, h, _⟩
    · exact absurd h hnil
    · exact ⟨g, cap, h⟩
  have S : w.Since w.heap.size w1 := ((World.Since.refl _ _).alloc (Nat.le_refl _) _).grown hgrow1 (by simp) (fun k hk => by simp [Value.ownBlock] at hk; omega)
  clear hnil hgrow1 HC HOWN
  go_wp2
  go_ret
  exact ⟨⟨g, cap, rfl, hown1⟩, S⟩

set_option maxHeartbeats 400000 in
set_option maxRecDepth 100000 in
theorem same_any (b1 o1 c1 b2 o2 c2 n : Nat) (f : Nat → Int) (w : World) (hn : n ≤ 1000)
    (h1 : ∀ i, i < n → w.cell? ⟨b1, o1 + i, none⟩ = some (.int .u8 (f i)))
    (h2 : ∀ i, i < n → w.cell? ⟨b2, o2 + i, none⟩ = some (.int .u8 (f i))) :
    Calls Tryd.prog 7 #[.slice (some ⟨b1, o1, none⟩) n c1, .slice (some ⟨b2, o2, none⟩) n c2] w fun e w' => e = .returned (.bool true) ∧ w.Since w.heap.size w' := by
  have H1 : Hid (∀ i, i < n → w.cell? ⟨b1, o1 + i, none⟩ = some (.int .u8 (f i))) := h1
  have H2 : Hid (∀ i, i < n → w.cell? ⟨b2, o2 + i, none⟩ = some (.int .u8 (f i))) := h2
  clear h1 h2
  go_enter Tryd.func7, Tryd.ntmps7
  go_wp2
  go_loopg [5] n (fun g i wr => ∃ k : Nat, k ≤ n ∧ g = n - k ∧ i = .int .i64 k ∧ w.Since w.heap.size wr)
  case atStart => exact ⟨0, Nat.zero_le _, rfl, rfl, World.Since.refl _ _⟩
  case round =>
    obtain ⟨k, hk, rfl, rfl, hS⟩ := hrel
    by_cases hlt : k < n
    · have e1 := H1.out k hlt
      have e2 := H2.out k hlt
      have g1 : wr.cell? ⟨b1, o1 + k, none⟩ = some (.int .u8 (f k)) := by rw [hS.cell (a := ⟨b1, o1 + k, none⟩) (World.block_lt_of_cell? _ _ e1)]; exact e1
      have g2 : wr.cell? ⟨b2, o2 + k, none⟩ = some (.int .u8 (f k)) := by rw [hS.cell (a := ⟨b2, o2 + k, none⟩) (World.block_lt_of_cell? _ _ e2)]; exact e2
      have hi1 : (k : Int) < (n : Int) := by omega
      clear e1 e2
      go_wp2
      go_region
      go_wp2
      go_roundg (n - (k + 1))
      case measure => go_light; omega
      case rel => go_light; exact ⟨k + 1, by omega, rfl, by go_num, hS.drew⟩
    · go_wp2
      go_ret
      exact ⟨rfl, hS⟩

/-- What the program's variable holds: the 32 numbers. -/
def bytes32 : List Int := [31, 139, 8, 0, 0, 9, 110, 136, 0, 255, 98, 24, 5, 163, 96, 20, 140, 88, 0, 8, 0, 0, 255, 255, 46, 175, 181, 239, 0, 4, 0, 0]

set_option maxHeartbeats 400000 in
set_option maxRecDepth 100000 in
theorem empty_any (b off c : Nat) (w : World) (hv : w.cell? ⟨0, 0, none⟩ = some (.slice (some ⟨b, off, none⟩) 32 c)) (hc : ∀ i, i < 32 → w.cell? ⟨b, off + i, none⟩ = some (.int .u8 (bytes32.getD i 0))) :
    Calls Tryd.prog 6 #[] w fun e w' => (∃ g cap, e = .returned (.slice (some ⟨g, 0, none⟩) 32 cap) ∧ w'.ownsRow w.heap.size 5 1 (.slice (some ⟨g, 0, none⟩) 32 cap) 32 (bytes32.map (Value.int .u8))) ∧ w.Since w.heap.size w' := by
  have HC : Hid (∀ i, i < 32 → w.cell? ⟨b, off + i, none⟩ = some (.int .u8 (bytes32.getD i 0))) := hc
  clear hc
  go_enter Tryd.func6, Tryd.ntmps6
  go_wp2_with fail
  refine (clone_any b off c bytes32 _ (by decide) (by decide) HC.out).mono ?_
  rintro e w1 ⟨⟨g, cap, rfl, hown⟩, S⟩
  clear HC hv
  go_wp2
  go_ret
  exact ⟨⟨g, cap, rfl, hown⟩, S⟩
end Go.Proofs.Qxb6612344aDoor
