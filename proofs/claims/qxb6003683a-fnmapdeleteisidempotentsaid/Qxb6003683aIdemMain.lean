import Derived.Test.Qxb6003683aSame
namespace Go.Proofs.Qxb6003683a
open Go.RowKit
open Tab (nx pos dst cnt WF upd Holds DInv)

/-- held, behind k cells. -/
def Held (I : Nat → Int) (x : Int) (k : Nat) (z : Bool) : Prop := z = true ↔ ∃ j, j < k ∧ I j = x
theorem Held.miss {I : Nat → Int} {x : Int} {k : Nat} {z : Bool} (h : Held I x k z) (hn : I k ≠ x) : Held I x (k + 1) z := by
  refine h.trans ⟨fun ⟨j, hj, e⟩ => ⟨j, by omega, e⟩, fun ⟨j, hj, e⟩ => ⟨j, ?_, e⟩⟩
  by_cases ek : j = k
  · subst ek; exact absurd e hn
  · omega
theorem Held.hit {I : Nat → Int} {x : Int} {k : Nat} (hn : I k = x) : Held I x (k + 1) true := ⟨fun _ => ⟨k, by omega, hn⟩, fun _ => rfl⟩

theorem row_src64 {w : World} {b c : Nat} {I : Nat → Int} (h : w.rowIs b 2 c (fun i => .int .i64 (I i))) : 0 < c → ∃ b' off, (some ⟨b, 0, none⟩ : Option Addr) = some ⟨b', off, none⟩ ∧ ∀ i, i < c → w.cell? ⟨b', off + i, none⟩ = some (.int .i64 (I i)) :=
  fun _ => ⟨b, 0, rfl, fun i hi => by rw [Nat.zero_add]; exact h.cell hi⟩
theorem row_src32 {w : World} {b c : Nat} {I : Nat → Int} (h : w.rowIs b 21 c (fun i => .int .i32 (I i))) : 0 < c → ∃ b' off, (some ⟨b, 0, none⟩ : Option Addr) = some ⟨b', off, none⟩ ∧ ∀ i, i < c → w.cell? ⟨b', off + i, none⟩ = some (.int .i32 (I i)) :=
  fun _ => ⟨b, 0, rfl, fun i hi => by rw [Nat.zero_add]; exact h.cell hi⟩

set_option maxHeartbeats 2000000 in
set_option maxRecDepth 100000 in
theorem idem_main (a0 : Option Addr) (c c0 : Nat) (a1 : Option Addr) (cv c1 : Nat) (n sh x : Int) (I V : Nat → Int) (w : World)
    (h0 : 0 < c → ∃ b off, a0 = some ⟨b, off, none⟩ ∧ ∀ i, i < c → w.cell? ⟨b, off + i, none⟩ = some (.int .i64 (I i)))
    (h1 : 0 < cv → ∃ b off, a1 = some ⟨b, off, none⟩ ∧ ∀ i, i < cv → w.cell? ⟨b, off + i, none⟩ = some (.int .i32 (V i))) :
    Calls Try.prog 6 #[.slice a0 c c0, .slice a1 cv c1, .int .i64 n, .int .u64 sh, .int .i64 x] w fun e w' => e = .returned (.bool true) ∧ w.Since w.heap.size w' := by
  have H0 := hide h0
  have H1 := hide h1
  clear h0 h1
  go_enter Try.func6, Try.ntmps6
  go_wp2_with fail
  refine (bytes20 a0 a1 c c0 cv c1 n sh x _).mono ?_
  rintro e w0 ⟨⟨b20, rfl⟩, hw0⟩
  subst w0
  cases b20
  · go_wp2
    go_ret
    exact ⟨rfl, World.Since.refl _ _⟩
  go_wp2_with fail
  all_goals first | (go_ret; exact ⟨rfl, World.Since.refl _ _⟩) | skip
  have q0 : c ≤ 1024 := by omega
  have q1 : cv ≤ 1024 := by omega
  have qx : 0 ≤ x := by omega
  refine (clone64_any _ _ _ I _ (by omega) (unhide H0)).mono ?_
  rintro e W1 ⟨⟨ia, rfl, hi⟩, S1⟩
  have HI := hide hi
  clear H0 hi
  go_wp2_with fail
  refine (clone32_any _ _ _ V _ (by omega) ?_).mono ?_
  · intro h
    obtain ⟨b, off, e1, e2⟩ := unhide H1 h
    exact ⟨b, off, e1, fun i hi => since_cell S1 (e2 i hi)⟩
  rintro e W2 ⟨⟨va, rfl, hv⟩, S2⟩
  have HV := hide hv
  have T2 := since_since S1 S2
  clear H1 hv
  go_wp2_with fail
  refine (from_any ia va c cv n sh _).mono ?_
  rintro e W3 ⟨rfl, hM, S3⟩
  have HM := hide hM
  have T3 := since_since T2 S3
  clear hM
  go_wp2_with fail
  refine (wf_any W2.heap.size w.heap.size ia va c cv n sh I _ (unhide HM) ?_).mono ?_
  · intro h
    exact ⟨(unhide HI h).1, since_row S3 (since_row S2 (unhide HI h).2)⟩
  rintro e W4 ⟨⟨bw, rfl, hbw⟩, S4⟩
  have T4 := since_since T3 S4
  cases bw
  · clear hbw
    go_wp2
    go_ret
    exact ⟨rfl, T4⟩
  obtain ⟨rfl, hC, hW⟩ := hbw.1 rfl
  have hbd := hC.bd
  have h8 : 8 ≤ cv := hbd.2.2.1
  have qn0 : 0 ≤ n := by have := hW.num; omega
  have qn1 : n ≤ 1024 := by have := hW.num; have := Tab.cnt_le I cv; omega
  obtain ⟨rfl, ri⟩ := unhide HI (by omega)
  obtain ⟨rfl, rv⟩ := unhide HV (by omega)
  have l1 := ri.lt
  have l2 := rv.lt
  have l0 := S1.size
  have hS4 : Set4 w W4 W2.heap.size w.heap.size W1.heap.size cv n sh I V := ⟨⟨since_row S4 (unhide HM), since_row S4 (since_row S3 (since_row S2 ri)), since_row S4 (since_row S3 rv)⟩, T4, Nat.le_refl _, by omega, by omega, by omega, by omega, by omega⟩
  have l4 := hS4.at_.m.lt
  have l5 := hS4.at_.ids.lt
  have l6 := hS4.at_.vals.lt
  have HSet := hide hS4
  have HC := hide hC
  have HW := hide hW
  clear hbw hC hW hbd ri rv hS4 HI HV HM S1 S2 S3 S4 T2 T3 T4 l1 l2 l0
  generalize W2.heap.size = M at *
  generalize hA : w.heap.size = A at *
  have HA := hide hA
  clear hA
  generalize W1.heap.size = B at *
  go_wp2_with fail
  -- ids0 := cloneI64(ids)
  refine (clone64_any _ _ _ I _ (by omega) (row_src64 (unhide HSet).at_.ids)).mono ?_
  rintro e W5 ⟨⟨z0, rfl, hz0⟩, S5⟩
  obtain ⟨rfl, r0⟩ := hz0 (by omega)
  have HSet5 := hide ((unhide HSet).keep S5)
  have HR0 := hide r0
  have l7 := S5.size
  clear hz0 r0 HSet S5
  generalize W4.heap.size = Z0 at *
  go_wp2_with fail
  -- vals0 := cloneI32(vals)
  refine (clone32_any _ _ _ V _ (by omega) (row_src32 (unhide HSet5).at_.vals)).mono ?_
  rintro e W6 ⟨⟨z1, rfl, hz1⟩, S6⟩
  obtain ⟨rfl, r1⟩ := hz1 (by omega)
  have HSet6 := hide ((unhide HSet5).keep S6)
  have HR0' := hide (since_row S6 (unhide HR0))
  have HR1 := hide r1
  have l8 := S6.size
  clear hz1 r1 HSet5 HR0 S6
  generalize W5.heap.size = Z1 at *
  go_wp2
  go_loopg [14, 15] cv (fun g s14 s15 wr => ∃ (k : Nat) (z : Bool), k ≤ cv ∧ g = cv - k ∧ s15 = .int .i64 k ∧ s14 = .bool z ∧ Hid (Held I x k z) ∧ wr = W6)
  case atStart => exact ⟨0, false, Nat.zero_le _, rfl, rfl, rfl, ⟨fun h => by simp at h, fun ⟨j, hj, _⟩ => absurd hj (Nat.not_lt_zero _)⟩, rfl⟩
  case round =>
    obtain ⟨k, z, hk, rfl, rfl, rfl, HS, hwr⟩ := hrel
    subst wr
    by_cases hlt : k < cv
    · have cc : W6.cell? ⟨Z0, k, none⟩ = some (.int .i64 (I k)) := (unhide HR0').cell hlt
      by_cases hx : I k = x
      · have t2 : (I k == x) = true := by simp [hx]
        have HX := hide hx
        clear hx
        go_wp2
        go_roundg (cv - (k + 1))
        case measure => go_light; omega
        case rel => go_light; exact ⟨k + 1, true, by omega, rfl, by go_num, rfl, Held.hit (unhide HX), rfl⟩
      · have t2 : (I k == x) = false := by simp [hx]
        have HX := hide hx
        clear hx
        go_wp2
        go_roundg (cv - (k + 1))
        case measure => go_light; omega
        case rel => go_light; exact ⟨k + 1, z, by omega, rfl, by go_num, rfl, (unhide HS).miss (unhide HX), rfl⟩
    · obtain rfl : k = cv := by omega
      go_wp2_with fail
      -- m.Delete(id)
      refine (del_any M A B k n sh x I V _ (unhide HSet6).at_ (unhide HC) (unhide HW) qx (unhide HSet6).ma (unhide HSet6).mb (unhide HSet6).ab).mono ?_
      rintro e W7 ⟨rfl, hD, hO⟩
      obtain ⟨I1, V1, n1, hm1, hw1, hno, hcase⟩ : ∃ I1 V1 n1, MapAt W7 M A B k n1 sh I1 V1 ∧ WF k (homeN sh) n1 I1 ∧ (∀ j, j < k → I1 j ≠ x) ∧ ((z = false ∧ I1 = I ∧ V1 = V ∧ n1 = n) ∨ (z = true ∧ n1 = n - 1)) := by
        rcases hD with ⟨h1, h2⟩ | ⟨h1, I', V', h2, h3, h4⟩
        · refine ⟨I, V, n, h2, unhide HW, h1, .inl ⟨?_, rfl, rfl, rfl⟩⟩
          cases z
          · rfl
          · obtain ⟨j, hj, e⟩ := (unhide HS).1 rfl
            exact absurd e (h1 j hj)
        · refine ⟨I', V', n - 1, h2, h3, ?_, .inr ⟨(unhide HS).2 h1, rfl⟩⟩
          intro j hj e
          exact ((h4 x (V' j) (by omega)).1 ⟨j, hj, e, rfl⟩).2 rfl
      have HS7 := hide ((unhide HSet6).turn hm1 hO)
      have HW7 := hide hw1
      have HNO := hide hno
      have HCASE := hide hcase
      have g0 := (unhide HR0').lt
      have g1 := (unhide HR1).lt
      have HR07 := hide (hO.row (unhide HR0') (by omega) (by omega) (by omega))
      have HR17 := hide (hO.row (unhide HR1) (by omega) (by omega) (by omega))
      have l9 := hO.size
      clear hD hO hm1 hw1 hno hcase HSet6 HR0' HR1 HS HW
      go_wp2_with fail
      -- a1, b1, n1, _ := ZZMapCells(m)
      refine (cells_any M _ _ k k n1 sh _ (unhide HS7).at_.m).mono ?_
      rintro e W8 ⟨rfl, S8⟩
      have HS8 := hide ((unhide HS7).keep S8)
      have HR08 := hide (since_row S8 (unhide HR07))
      have HR18 := hide (since_row S8 (unhide HR17))
      have l10 := S8.size
      clear S8 HS7 HR07 HR17
      go_wp2_with fail
      -- ids1 := cloneI64(a1)
      refine (clone64_any _ _ _ I1 _ (by omega) (row_src64 (unhide HS8).at_.ids)).mono ?_
      rintro e W9 ⟨⟨z2, rfl, hz2⟩, S9⟩
      obtain ⟨rfl, r2⟩ := hz2 (by omega)
      have HS9 := hide ((unhide HS8).keep S9)
      have HR09 := hide (since_row S9 (unhide HR08))
      have HR19 := hide (since_row S9 (unhide HR18))
      have HR29 := hide r2
      have l11 := S9.size
      clear S9 HS8 HR08 HR18 hz2 r2
      go_wp2_with fail
      -- vals1 := cloneI32(b1)
      refine (clone32_any _ _ _ V1 _ (by omega) (row_src32 (unhide HS9).at_.vals)).mono ?_
      rintro e W10 ⟨⟨z3, rfl, hz3⟩, S10⟩
      obtain ⟨rfl, r3⟩ := hz3 (by omega)
      have HS10 := hide ((unhide HS9).keep S10)
      have HR010 := hide (since_row S10 (unhide HR09))
      have HR110 := hide (since_row S10 (unhide HR19))
      have HR210 := hide (since_row S10 (unhide HR29))
      have HR310 := hide r3
      have l12 := S10.size
      have g2 := (unhide HR29).lt
      have g3 := r3.lt
      clear S10 HS9 HR09 HR19 HR29 hz3 r3
      go_wp2_with fail
      -- m.Delete(id)
      refine (del_any M A B k n1 sh x I1 V1 _ (unhide HS10).at_ (unhide HC) (unhide HW7) qx (unhide HS10).ma (unhide HS10).mb (unhide HS10).ab).mono ?_
      rintro e W11 ⟨rfl, hD, hO⟩
      have hm11 : MapAt W11 M A B k n1 sh I1 V1 := by
        rcases hD with ⟨_, h2⟩ | ⟨⟨j, hj, e⟩, _⟩
        · exact h2
        · exact absurd e (unhide HNO j hj)
      have HS11 := hide ((unhide HS10).turn hm11 hO)
      have HR011 := hide (hO.row (unhide HR010) (by omega) (by omega) (by omega))
      have HR111 := hide (hO.row (unhide HR110) (by omega) (by omega) (by omega))
      have HR211 := hide (hO.row (unhide HR210) (by omega) (by omega) (by omega))
      have HR311 := hide (hO.row (unhide HR310) (by omega) (by omega) (by omega))
      clear hD hO hm11 HS10 HR010 HR110 HR210 HR310 HW7 HNO
      go_wp2_with fail
      refine (cells_any M _ _ k k n1 sh _ (unhide HS11).at_.m).mono ?_
      rintro e W12 ⟨rfl, S12⟩
      have HS12 := hide ((unhide HS11).keep S12)
      have HR012 := hide (since_row S12 (unhide HR011))
      have HR112 := hide (since_row S12 (unhide HR111))
      have HR212 := hide (since_row S12 (unhide HR211))
      have HR312 := hide (since_row S12 (unhide HR311))
      clear S12 HS11 HR011 HR111 HR211 HR311
      go_wp2_with fail
      refine (same64 _ _ k k k I1 _ (by omega) (unhide HR212) (unhide HS12).at_.ids).mono ?_
      rintro e W13 ⟨rfl, S13⟩
      have HS13 := hide ((unhide HS12).keep S13)
      have HR013 := hide (since_row S13 (unhide HR012))
      have HR113 := hide (since_row S13 (unhide HR112))
      have HR213 := hide (since_row S13 (unhide HR212))
      have HR313 := hide (since_row S13 (unhide HR312))
      clear S13 HS12 HR012 HR112 HR212 HR312
      go_wp2_with fail
      refine (same32 _ _ k k k V1 _ (by omega) (unhide HR313) (unhide HS13).at_.vals).mono ?_
      rintro e W14 ⟨rfl, S14⟩
      have HS14 := hide ((unhide HS13).keep S14)
      have HR014 := hide (since_row S14 (unhide HR013))
      have HR114 := hide (since_row S14 (unhide HR113))
      have HR214 := hide (since_row S14 (unhide HR213))
      have HR314 := hide (since_row S14 (unhide HR313))
      clear S14 HS13 HR013 HR113 HR213 HR313
      have t20 : (n1 != n1) = false := by simp
      rcases unhide HCASE with ⟨rfl, rfl, rfl, rfl⟩ | ⟨rfl, hn1⟩
      · -- not held
        go_wp2_with fail
        refine (same64 _ _ k k k I1 _ (by omega) (unhide HR014) (unhide HR214)).mono ?_
        rintro e W15 ⟨rfl, S15⟩
        have HS15 := hide ((unhide HS14).keep S15)
        have HR115 := hide (since_row S15 (unhide HR114))
        have HR315 := hide (since_row S15 (unhide HR314))
        clear S15 HS14 HR114 HR314
        go_wp2_with fail
        refine (same32 _ _ k k k V1 _ (by omega) (unhide HR115) (unhide HR315)).mono ?_
        rintro e W16 ⟨rfl, S16⟩
        have HS16 := hide ((unhide HS15).keep S16)
        have t21 : (n1 == n1) = true := by simp
        clear S16 HS15
        go_wp2
        go_ret
        exact ⟨rfl, by first | exact (unhide HS16).since | (rw [← unhide HA]; exact (unhide HS16).since)⟩
      · -- held
        subst hn1
        have t22 : (n - 1 == n - 1) = true := by simp
        go_wp2
        go_ret
        exact ⟨rfl, by first | exact (unhide HS14).since | (rw [← unhide HA]; exact (unhide HS14).since)⟩
end Go.Proofs.Qxb6003683a
