import Derived.Test.Qxb6612344aDoorWalk
import Derived.Test.Qxb6612344aDoorTie
import Derived.Test.Qxb6612344aDoorCards
import Derived.ProofKit
import Derived.LaidMore
import Derived.OpenShut
import Derived.ChangeStays
import Derived.ChangeVars
import Derived.Stop.Joined
import Derived.SevenTiedAt
namespace Go.Proofs.Qxb6612344aDoor
open Go.ChangeShapes Go.WideShapes Go.ChangeAt Go.RowKit

theorem own : ownKnob Tryd.prog.godebug = none := by kernel_rfl
theorem laidOut : laidOutB Tryd.prog = true := by kernel_rfl
/-- The variable's name, as the given row bears it. -/
def vname : String := Rows.fnEmptyLayerExactFreshBytesSpec.vars.headD ""
theorem gEmpty : Tryd.prog.globalNamed vname = some 0 := by kernel_rfl
theorem tEmpty : (Tryd.prog.globals[0]?).map (·.type) = some 24 := by kernel_rfl
theorem cells5 : Tryd.prog.cellsOf 5 = 1 := by kernel_rfl

/-- The door's own heap meets the condition. -/
theorem door_met (os : Os) (args : Array Value) : laidMetH Tryd.prog Rows.fnEmptyLayerExactFreshBytesRow.laid ((World.doorLaid Tryd.prog 400 os).forCall (fun _ _ => 0) ⟨#[], args, []⟩).memory :=
  laidMetH_of_parts3 (fuel := 8) (laidMet_of_run' 8 (by kernel_rfl) (by kernel_rfl)) (by kernel_rfl) (by kernel_rfl)

theorem lits_inj {H : Type} : ∀ {a b : List Int}, lits (H := H) .u8 a = lits .u8 b → a = b
  | [], [], _ => rfl
  | [], _ :: _, h => by simp [lits] at h
  | _ :: _, [], h => by simp [lits] at h
  | x :: a, y :: b, h => by
    simp only [lits, List.map_cons, List.cons.injEq] at h
    obtain ⟨h1, h2⟩ := h
    have e : x = y := by simpa using h1
    have := lits_inj (a := a) (b := b) h2
    rw [e, this]

/-- WHAT THE CONDITION GIVES THE WALK. -/
theorem of_laid {W : World} (h : laidMetH Tryd.prog Rows.fnEmptyLayerExactFreshBytesRow.laid W) :
    ∃ b off c, W.cell? ⟨0, 0, none⟩ = some (.slice (some ⟨b, off, none⟩) 32 c) ∧ ∀ i, i < 32 → W.cell? ⟨b, off + i, none⟩ = some (.int .u8 (bytes32.getD i 0)) := by
  rw [MakeChecks.laidMetH_plain _ _ _ (by kernel_rfl)] at h
  obtain ⟨ps, ⟨g0, t0, cs0, f0, p0, q0, hg0, ht0, hv0, hd0, _, _⟩, _, _⟩ := h
  obtain rfl := Option.some.inj (gEmpty.symm.trans hg0)
  obtain rfl := Option.some.inj (tEmpty.symm.trans ht0)
  rcases open_ints Tryd.underlying24 Tryd.underlying5 cells5 hd0 with ⟨_, hx⟩ | ⟨a, len, cap, zs, hcs, _, hl, hm, hz, hx, hcell, hwz⟩
  · simp [Rows.laid_example_com_dunnage_dunnage_manifest_emptyLayer] at hx
  have hcell0 : W.cell? ⟨0, 0, none⟩ = some (.slice (some a) len cap) := by
    have := World.var?_cell hg0 hv0 0
    rw [Array.eq_one_of_toList hcs] at this
    simpa using this
  simp only [Prod.mk.injEq] at hx
  have hx1 := hx.1
  have hx2 : DataW.slice (lits .u8 bytes32) [] = DataW.slice (lits .u8 (zs.take len)) (lits .u8 (zs.drop len)) := hx1
  injection hx2 with e1 _
  have ez : bytes32 = zs.take len := lits_inj e1
  have hlz : len ≤ zs.length := by rw [hz]; split <;> omega
  have h32 : len = 32 := by
    have := congrArg List.length ez
    rw [List.length_take, Nat.min_eq_left hlz] at this
    exact this.symm
  subst h32
  obtain ⟨b, off, rfl⟩ : ∃ b off, a = ⟨b, off, none⟩ := by
    have h0 := hcell 0 (by omega)
    have e0 : a.add 0 = a := by simp [Addr.add]
    rw [e0] at h0
    obtain ⟨b, off, spot⟩ := a
    have hs : spot = none := by simpa using World.cell?_spot h0
    exact ⟨b, off, by rw [hs]⟩
  refine ⟨b, off, cap, hcell0, fun i hi => ?_⟩
  have hi' : i < zs.length := by omega
  have ei : bytes32.getD i 0 = zs.getD i 0 := by
    rw [ez]
    simp only [List.getD, List.getElem?_take, hi, if_true]
  rw [← add_plain, hcell i hi', ei]

/-- The variable's reading stays. -/
theorem var_stays {H : Type} {enc : TypeId × Value → H} {W W' : World} (S : W.Since W.heap.size W') {gs : List (DataW H)} {q : List MemPlace}
    (h : DataW.TrodVars enc Tryd.prog W (fun _ => true) [vname] gs q) :
    ∃ d q', gs = [d] ∧ DataW.TrodVars enc Tryd.prog W' (fun b => decide (b < W.heap.size)) [vname] [d] q' := by
  obtain ⟨g, t, cs, fuel, d, p, rfl, hg, ht, hv, hd, _⟩ := trodVars_one h
  obtain rfl := Option.some.inj (gEmpty.symm.trans hg)
  obtain rfl := Option.some.inj (tEmpty.symm.trans ht)
  have hlt : ∀ x ∈ p, x.block < W.heap.size := DataW.trod_lt fuel _ _ _ hd
  have h0 : 0 < W.heap.size := by
    cases hh : W.heap.size with
    | zero =>
      have e : W.heap[0]? = none := by simp [hh]
      simp [World.var?, hg, e] at hv
    | succ n => omega
  have hv' : W'.var? Tryd.prog vname = some cs := by rw [S.var hg h0]; exact hv
  have hd' : DataW.trod enc Tryd.prog W' 0 (fun b => decide (b < W.heap.size)) true fuel 24 cs.toList = some (d, p) :=
    DataW.trod_stays (kids_book laidOut (t0 := 24) (by kernel_rfl)) (book_sized (by kernel_rfl)) (fun h => by cases h) ⟨of_decide_eq_true (by kernel_rfl), book_self 24⟩ hd (fun x hx => S.sameAt (hlt x hx)) (fun x hx => by simpa using hlt x hx)
  exact ⟨d, _, rfl, trodVars_mk1 gEmpty tEmpty hv' hd'⟩

set_option maxRecDepth 100000 in
theorem lifted (os : Os) (started : os.Started) (H : Type) (enc : TypeId × Value → H) :
    ReturnsInHanded {} Tryd.checked os 3 .any (fun w args => (Rows.fnEmptyLayerExactFreshBytesSpec.pre enc Tryd.prog Tryd.f3 [] false w args ∧ laidMetH Tryd.prog Rows.fnEmptyLayerExactFreshBytesRow.laid w) ∧ sizedMet enc Tryd.prog Tryd.f3 (OpenSpec.ofChange Rows.fnEmptyLayerExactFreshBytesSpec) false w args)
      (Rows.fnEmptyLayerExactFreshBytesSpec.post enc Tryd.prog Tryd.f3 false true false false) := by
  refine returnsInHanded_of_change_and (C := Tryd.checked) (X := fun w _ => laidMetH Tryd.prog Rows.fnEmptyLayerExactFreshBytesRow.laid w) (fun _ _ _ hh h => h.of_heap hh) own started (by kernel_rfl) Tryd.func3
    (ChangeSpec.witness_shaped (enc := enc) (C := Tryd.checked) (os := os) (X := fun w _ => laidMetH Tryd.prog Rows.fnEmptyLayerExactFreshBytesRow.laid w) false (World.doorLaid Tryd.prog 400 os) #[] 8 rfl (World.shaped_of_RefB (by kernel_rfl) (by kernel_rfl)) (by kernel_rfl) (by kernel_rfl) (by kernel_rfl) (door_met os _)) ?_
  intro W base args ds gs before hval0 hW _ _ hL _
  have hW' := hW
  obtain ⟨p, q, hA0, hV, rfl, hfz, hnd⟩ := hW
  have hA : DataW.TrodAll enc Tryd.prog W 0 (fun _ => true) true Tryd.f3.params.toList args.toList ds p := hA0
  rw [Tryd.params3] at hA
  obtain ⟨hargs, rfl, rfl⟩ := trodAll_nil hA
  obtain rfl : args = #[] := by cases args; simp_all
  obtain ⟨b, off, c, hv, hc⟩ := of_laid hL
  refine (main_walk b off c W hv hc).mono fun e W' ⟨he, S⟩ => ?_
  subst he
  have hV1 : DataW.TrodVars enc Tryd.prog W (fun _ => true) [vname] gs q := hV
  obtain ⟨d, q', rfl, hvars⟩ := var_stays S hV1
  have bel : Below W.heap.size W W' := ⟨S.os, S.tape, S.output, S.size, S.block⟩
  exact ⟨_, rfl, _, _, _, [], [], q', hW', trodAll_mk1 (shut_bool Tryd.underlying4 _), trodAll_mk0, hvars, bel.frame _, fun h => by cases h⟩

theorem row_holds : Rows.FnEmptyLayerExactFreshBytesSaid :=
  OpenClaim.holds_of_wide 3 Tryd.f3 rfl rfl rfl rfl rfl rfl rfl ⟨rfl, rfl, rfl, rfl, rfl⟩ rfl rfl rfl rfl rfl (by kernel_rfl) Tryd.func3 (by kernel_rfl)
    (of_decide_eq_true (by kernel_rfl)) (by unfold Func.isWrapper; first | (rw [if_pos (by decide +kernel)]; kernel_rfl) | (rw [if_neg (by decide +kernel)]; exact ⟨rfl, rfl⟩))
    (fun os started H enc _ => lifted os started H enc)

/-- THE STATEMENT: the tied card. -/
theorem fnEmptyLayerExactFreshBytesCard_proved : Rows.FnEmptyLayerExactFreshBytesCardSaid :=
  Claim7.holds_tied_plain_at .later [] [.widerDeep] true (true, "e35bd0bee733113c098e37a55d9d530b40c9a0f77b5fab63235bda8c498bcb56") false
    row_holds (fun _ h => by cases h) (by kernel_rfl) (fun _ h => by cases h) fnEmptyLayerExactFreshBytes_row_tie rfl ⟨rfl, rfl⟩ (by kernel_rfl) rfl
    (fun f fn hf hfn => by
      obtain rfl : f = 3 := Option.some.inj ((show Tryd.prog.funcNamed Rows.fnEmptyLayerExactFreshBytesRow.func = some 3 by kernel_rfl).symm.trans hf) |>.symm
      obtain rfl : fn = Tryd.f3 := (Option.some.inj (Tryd.func3.symm.trans hfn)).symm
      exact ⟨by kernel_rfl, fun j t ht => by
        rw [Tryd.params3] at ht
        simp at ht⟩)
    (by kernel_rfl)
#print axioms fnEmptyLayerExactFreshBytesCard_proved
end Go.Proofs.Qxb6612344aDoor
