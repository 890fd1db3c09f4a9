import Derived.Test.Qxb6003683aWf
namespace Go.Proofs.Qxb6003683a
open Go.RowKit
open Tab (nx pos dst cnt WF)

/-- THE TABLE IN MEMORY. -/
structure MapAt (w : World) (M a b c : Nat) (n sh : Int) (I V : Nat → Int) : Prop where
  m : w.rowIs M 47 4 (mf (some ⟨a, 0, none⟩) (some ⟨b, 0, none⟩) c c n sh)
  ids : w.rowIs a 2 c (fun i => .int .i64 (I i))
  vals : w.rowIs b 21 c (fun i => .int .i32 (V i))

theorem MapAt.keep {w W : World} {M a b c : Nat} {n sh : Int} {I V : Nat → Int} (h : MapAt w M a b c n sh I V) (S : w.Since w.heap.size W) : MapAt W M a b c n sh I V :=
  ⟨since_row S h.m, since_row S h.ids, since_row S h.vals⟩

/-- What Get answers. -/
def GetOut (c : Nat) (I V : Nat → Int) (x : Int) (e : Ending) : Prop :=
  (∃ j, j < c ∧ I j = x ∧ x ≠ -1 ∧ e = .returned (.tuple #[.int .i32 (V j), .bool true])) ∨ ((∀ j, j < c → I j ≠ -1 → I j ≠ x) ∧ e = .returned (.tuple #[.int .i32 0, .bool false]))

set_option maxHeartbeats 1000000 in
set_option maxRecDepth 100000 in
theorem get_any (M a b c : Nat) (n sh x : Int) (I V : Nat → Int) (w : World) (hM : MapAt w M a b c n sh I V) (hC : IsC c sh) (hW : WF c (homeN sh) n I) :
    Calls Try.prog 16 #[.pointer (some ⟨M, 0, none⟩), .int .i64 x] w fun e w' => GetOut c I V x e ∧ w' = w := by
  have hbd := hC.bd
  have h8 : 8 ≤ c := hbd.2.2.1
  have h1024 : c ≤ 1024 := hbd.2.2.2
  have f0 : w.cell? ⟨M, 0, none⟩ = some (.slice (some ⟨a, 0, none⟩) c c) := hM.m.cell (by omega)
  have f1 : w.cell? ⟨M, 1, none⟩ = some (.slice (some ⟨b, 0, none⟩) c c) := hM.m.cell (by omega)
  have f2 : w.cell? ⟨M, 2, none⟩ = some (.int .i64 n) := hM.m.cell (by omega)
  have hn0 : 0 ≤ n := by have := hW.num; omega
  by_cases hz : n = 0
  · subst hz
    have hall := Tab.cnt_zero (I := I) (k := c) (by have := hW.num; omega)
    have HA := hide hall
    clear hall hM hC hW hbd
    go_enter Try.func16, Try.ntmps16
    go_wp2
    go_ret2
    exact ⟨.inr ⟨fun j hj hne => absurd (unhide HA j hj) hne, rfl⟩, rfl⟩
  have hn1 : 0 < n := by omega
  obtain ⟨e0, he0, hee⟩ := Tab.hole_of (I := I) (c := c) (by have := hW.half; omega)
  have hH : ∀ x, homeN sh x < c := fun x => (home_num hC x).2
  have hhl := hH x
  have hpe : I (pos c (homeN sh x) (dst c (homeN sh x) e0)) = -1 := by rw [Tab.pos_dst hhl he0]; exact hee
  have hdl := Tab.dst_lt hhl he0
  have HM := hide hM
  have HC := hide hC
  have HW := hide hW
  have HH := hide hH
  clear hM hC hW hbd hH hz
  go_enter Try.func16, Try.ntmps16
  go_wp2_with fail
  refine (home_any M _ _ c c c n sh x _ (unhide HM).m (unhide HC)).mono ?_
  rintro e w1 ⟨rfl, hw1⟩
  subst w1
  generalize hh : homeN sh x = h at hhl hpe hdl ⊢
  generalize dst c h e0 = D at hpe hdl
  have HHx := hide hh
  have HPE := hide hpe
  clear hh hpe hee he0
  go_wp2
  go_loopg [4, 5, 7] D (fun g s4 s5 s7 wr => ∃ d : Nat, d ≤ D ∧ g = D - d ∧ s4 = .int .i32 0 ∧ s5 = .bool false ∧ s7 = .int .i64 (pos c h d : Nat) ∧ Hid (∀ d', d' < d → I (pos c h d') ≠ x) ∧ wr = w)
  case atStart => exact ⟨0, Nat.zero_le _, rfl, rfl, rfl, by rw [Tab.pos_zero hhl], fun d' hd' => absurd hd' (Nat.not_lt_zero _), rfl⟩
  case round =>
    obtain ⟨d, hd, rfl, rfl, rfl, rfl, H4, rfl⟩ := hrel
    have hpl : pos c h d < c := Tab.pos_lt hhl (by omega)
    have c2 : wr.cell? ⟨a, pos c h d, none⟩ = some (.int .i64 (I (pos c h d))) := (unhide HM).ids.cell hpl
    by_cases hne : I (pos c h d) = -1
    · have t8 : (I (pos c h d) != -1) = false := by simp [hne]
      have HN := hide hne
      clear hne
      generalize hq : pos c h d = q at *
      have HQ := hide hq
      clear hq
      go_wp2
      go_ret2
      refine ⟨.inr ⟨?_, rfl⟩, rfl⟩
      refine Tab.absent (unhide HW) (unhide HH) (x := x) (d := d) ?_ ?_
      · rw [unhide HHx, unhide HQ]; exact unhide HN
      · rw [unhide HHx]; exact unhide H4
    · have t8 : (I (pos c h d) != -1) = true := by simpa using hne
      have hdD : d < D := by
        by_cases e : d = D
        · subst e; exact absurd (unhide HPE) hne
        · omega
      have hnx := mask_nx (unhide HC) hpl
      rw [Tab.nx_pos hhl (by omega)] at hnx
      have HN := hide hne
      clear hne
      by_cases hx : I (pos c h d) = x
      · have t9 : (I (pos c h d) == x) = true := by simp [hx]
        have c3 : wr.cell? ⟨b, pos c h d, none⟩ = some (.int .i32 (V (pos c h d))) := (unhide HM).vals.cell hpl
        have HX := hide hx
        clear hx
        generalize hq : pos c h d = q at *
        clear hq
        go_wp2
        go_ret2
        exact ⟨.inl ⟨q, hpl, unhide HX, by rw [← unhide HX]; exact unhide HN, rfl⟩, rfl⟩
      · have t9 : (I (pos c h d) == x) = false := by simp [hx]
        have HX := hide hx
        clear hx
        generalize hq : pos c h d = q at *
        have HQ := hide hq
        clear hq
        go_wp2
        go_roundg (D - (d + 1))
        case measure => go_light; omega
        case rel =>
          go_light
          refine ⟨d + 1, by omega, rfl, rfl, rfl, rfl, fun d' hd' => ?_, rfl⟩
          by_cases ed : d' = d
          · subst ed; rw [unhide HQ]; exact unhide HX
          · exact unhide H4 d' (by omega)
end Go.Proofs.Qxb6003683a
