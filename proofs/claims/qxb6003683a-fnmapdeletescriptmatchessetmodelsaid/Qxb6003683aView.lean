import Derived.Test.Qxb6003683aRows
import Derived.ProofKit
import Derived.OpenShut
import Derived.ChangeOld
import Derived.Below
namespace Go.Proofs.Qxb6003683a
open Go.ChangeShapes Go.WideShapes Go.ChangeAt Go.RowKit

theorem own : ownKnob Try.prog.godebug = none := by kernel_rfl
theorem laidOut : laidOutB Try.prog = true := by kernel_rfl
theorem cells2 : Try.prog.cellsOf 2 = 1 := by kernel_rfl
theorem cells21 : Try.prog.cellsOf 21 = 1 := by kernel_rfl

theorem plain_addr {W : World} {a : Addr} {v : Value} (h : W.cell? a = some v) : ∃ b off, a = ⟨b, off, none⟩ := by
  obtain ⟨b, off, spot⟩ := a
  have hs : spot = none := by simpa using World.cell?_spot h
  exact ⟨b, off, by rw [hs]⟩

/-- What a walk is told of a slice of integers that came in. -/
theorem view_ints {H : Type} {enc : TypeId × Value → H} {W : World} {fuel : Nat} {x : DataW H × List MemPlace} {t e : TypeId} {k : IntKind} (ht : Try.prog.underlying t = some (.slice e)) (he : Try.prog.underlying e = some (.int k)) (hc : Try.prog.cellsOf e = 1)
    {a : Option Addr} {n c : Nat} (h : DataW.trod enc Try.prog W 0 (fun _ => true) true fuel t [.slice a n c] = some x) :
    ∃ f : Nat → Int, 0 < n → ∃ b off, a = some ⟨b, off, none⟩ ∧ ∀ i, i < n → W.cell? ⟨b, off + i, none⟩ = some (.int k (f i)) := by
  rcases open_ints ht he hc h with ⟨hcs, _⟩ | ⟨y, l, cap, zs, hcs, _, hl, hm, hz, _, hcell, _⟩
  · simp at hcs
    obtain ⟨_, rfl, _⟩ := hcs
    exact ⟨fun _ => 0, fun h => absurd h (Nat.lt_irrefl _)⟩
  · simp at hcs
    obtain ⟨rfl, rfl, rfl⟩ := hcs
    refine ⟨fun i => zs.getD i 0, fun hn => ?_⟩
    have hlz : zs.length = c := by simpa using hz
    obtain ⟨b, off, rfl⟩ : ∃ b off, y = ⟨b, off, none⟩ := by
      have h0 := hcell 0 (by omega)
      have e0 : y.add 0 = y := by simp [Addr.add]
      rw [e0] at h0
      exact plain_addr h0
    exact ⟨b, off, rfl, fun i hi => by rw [← add_plain]; exact hcell i (by omega)⟩
end Go.Proofs.Qxb6003683a
