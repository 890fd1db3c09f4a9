import Derived.Test.Qxb6612344aDoorClone
import Derived.Deep.MidRow
namespace Go.Proofs.Qxb6612344aDoor
open Go.RowKit

theorem grown_setCells (b : Nat) : ∀ (vs : List Value) (o : Nat) (w : World), (w.setCells b o vs).heap.size = w.heap.size ∧ w.grownBy (w.setCells b o vs) (some b)
  | [], _, w => ⟨rfl, World.grownBy.refl w _⟩
  | v :: r, o, w => by
    obtain ⟨h1, h2⟩ := grown_setCells b r (o + 1) (w.setCell ⟨b, o, none⟩ v)
    rw [World.setCells]
    refine ⟨by rw [h1]; simp [World.setCell], ⟨h2.os, h2.tape, h2.output, by rw [h1]; simp [World.setCell], fun k hk hne => ?_⟩⟩
    rw [h2.block k (by simpa [World.setCell] using hk) hne]
    exact Below.heap_setCell _ _ _ _ (fun e => hne (by simpa using congrArg some e))

section
variable {P : Program}

/-- A store of a whole row; the world behind it by what it is good for. -/
theorem wpList_store_abs {ops : Array Oper} {rest : List Oper} {op : Oper} {a : Act} {w : World} {Q : Exit → Act → World → Prop} (hgd : op.guard = none) (ty : TypeId) (x y : Operand) (ho : op.op = .store ty x y)
    (b o : Nat) (cells : Array Value) (hx : a.eval x = .pointer (some ⟨b, o, none⟩)) (hy : a.eval y = .agg cells)
    (ht : w.there b o cells.size) (hi : (P.info? ty).map (·.size) = some cells.size) (h1 : cells.all (·.oneCell') = true)
    (h : ∀ w', w'.heap.size = w.heap.size → w.grownBy w' (some b) → w'.rangeAt b o cells.toList → wpList P ops Q rest (a.put op.dst undef) w') : wpList P ops Q (op :: rest) a w := by
  refine wpList_store_mid hgd ty x y ho b o cells hx hy ht hi h1 (h _ ?_ ?_ ?_)
  · exact (grown_setCells b _ o w).1
  · exact (grown_setCells b _ o w).2
  · exact World.rangeAt_setCells_same _ _ _ _ (by simpa using ht)

theorem there_new (w : World) (c : Array Value) (t : TypeId) (n : Nat) (hn : n = c.size) : (w.alloc (.cells c t)).there w.heap.size 0 n := by
  subst hn
  intro j hj
  have := World.rowIs_alloc w c t (fun i => c[i]!) (fun i hi => by simp [hi])
  exact ⟨by rw [Nat.zero_add, this.cell hj]; rfl, by rw [Nat.zero_add]; exact this.frozen j⟩
end

/-- The 32 numbers as cells. -/
def want32 : Array Value := #[.int .u8 31, .int .u8 139, .int .u8 8, .int .u8 0, .int .u8 0, .int .u8 9, .int .u8 110, .int .u8 136, .int .u8 0, .int .u8 255, .int .u8 98, .int .u8 24, .int .u8 5, .int .u8 163, .int .u8 96, .int .u8 20, .int .u8 140, .int .u8 88, .int .u8 0, .int .u8 8, .int .u8 0, .int .u8 0, .int .u8 255, .int .u8 255, .int .u8 46, .int .u8 175, .int .u8 181, .int .u8 239, .int .u8 0, .int .u8 4, .int .u8 0, .int .u8 0]
theorem want32_size : want32.size = 32 := rfl
theorem want32_one : want32.all (·.oneCell') = true := by
  have e : want32 = (bytes32.map (Value.int .u8)).toArray := rfl
  rw [e]
  exact all_oneCell_toArray (ints_oneCell _ _)
theorem want32_list : want32.toList = bytes32.map (Value.int .u8) := rfl
theorem info22 : (Tryd.prog.info? 22).map (·.size) = some 32 := by kernel_rfl

theorem results_one_cell {fn : Func} {p : Tmp} {ty : TypeId} (h : fn.results = #[.cell p ty]) (tmps : Array Value) (P : Program) (w : World) :
    (results fn tmps).run P w = ((asAddr (tmps.getD p undef)).run P w).andThen fun a w₁ => (loadVar ty a).run P w₁ := by
  simp only [results, h]
  simp [Sem.run_bind, Result.andThen]
  try rfl

set_option maxHeartbeats 400000 in
set_option maxRecDepth 100000 in
theorem want_any (w : World) : Calls Tryd.prog 5 #[] w fun e w' => e = .returned (.agg want32) ∧ w.Since w.heap.size w' := by
  go_enter Tryd.func5, Tryd.ntmps5
  go_wp2_with (refine wpList_store_abs rfl 22 (.tmp 0) (.tmp 1) rfl w.heap.size 0 want32 rfl rfl (there_new _ _ _ _ rfl) info22 want32_one ?_)
  intro w1 hsz hg hr
  go_wp2
  have hld : (loadVar 22 ⟨w.heap.size, 0, none⟩).run Tryd.prog w1 = .ok (.agg want32) w1 := by
    have := run_loadVar_mid (P := Tryd.prog) w1 w.heap.size 0 22 want32.toList _ hr Tryd.underlying22 rfl info22
    simpa using this
  have S : w.Since w.heap.size w1 := ((World.Since.refl _ _).alloc (Nat.le_refl _) _).grown hg (by simp) (fun k hk => by cases hk; exact Nat.le_refl _)
  clear hsz hg hr
  refine bodyPost_ret (v := .agg want32) ?_ rfl ⟨rfl, S⟩
  rw [results_one_cell Tryd.results5]
  show ((asAddr (.pointer (some ⟨w.heap.size, 0, none⟩))).run Tryd.prog w1).andThen _ = _
  simp only [asAddr, Sem.run_pure, Result.andThen]
  exact hld
end Go.Proofs.Qxb6612344aDoor
