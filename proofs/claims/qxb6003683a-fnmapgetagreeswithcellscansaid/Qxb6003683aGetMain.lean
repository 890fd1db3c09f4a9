import Derived.Test.Qxb6003683aGet
namespace Go.Proofs.Qxb6003683a
open Go.RowKit
open Tab (nx pos dst cnt WF)

/-- What the scan has found behind k cells. -/
def Scan (I : Nat → Int) (x : Int) (k : Nat) (z : Int) : Prop :=
  (z = -1 ∧ ∀ j, j < k → I j ≠ -1 → I j ≠ x) ∨ ∃ j, j < k ∧ z = (j : Int) ∧ I j = x ∧ I j ≠ -1

theorem Scan.miss {I : Nat → Int} {x : Int} {k : Nat} {z : Int} (h : Scan I x k z) (hn : ¬ (I k ≠ -1 ∧ I k = x)) : Scan I x (k + 1) z := by
  rcases h with ⟨rfl, h⟩ | ⟨j, hj, e1, e2, e3⟩
  · refine .inl ⟨rfl, fun j hj hne e => ?_⟩
    by_cases ek : j = k
    · subst ek; exact hn ⟨hne, e⟩
    · exact h j (by omega) hne e
  · exact .inr ⟨j, by omega, e1, e2, e3⟩

set_option maxHeartbeats 1000000 in
set_option maxRecDepth 100000 in
theorem get_main (a0 : Option Addr) (c c0 : Nat) (a1 : Option Addr) (cv c1 : Nat) (n sh x : Int) (I V : Nat → Int) (w : World)
    (h0 : 0 < c → ∃ b off, a0 = some ⟨b, off, none⟩ ∧ ∀ i, i < c → w.cell? ⟨b, off + i, none⟩ = some (.int .i64 (I i)))
    (h1 : 0 < cv → ∃ b off, a1 = some ⟨b, off, none⟩ ∧ ∀ i, i < cv → w.cell? ⟨b, off + i, none⟩ = some (.int .i32 (V i))) :
    Calls Try.prog 4 #[.slice a0 c c0, .slice a1 cv c1, .int .i64 n, .int .u64 sh, .int .i64 x] w fun e w' => e = .returned (.bool true) ∧ w.Since w.heap.size w' := by
  have H0 := hide h0
  have H1 := hide h1
  clear h0 h1
  go_enter Try.func4, Try.ntmps4
  go_wp2_with fail
  refine (bytes11 a0 a1 c c0 cv c1 n sh x _).mono ?_
  rintro e w0 ⟨⟨b11, rfl⟩, hw0⟩
  subst w0
  cases b11
  · go_wp2
    go_ret
    exact ⟨rfl, World.Since.refl _ _⟩
  go_wp2_with fail
  all_goals first | (go_ret; exact ⟨rfl, World.Since.refl _ _⟩) | skip
  have q0 : c ≤ 1024 := by omega
  have q1 : cv ≤ 1024 := by omega
  refine (clone64_any _ _ _ I _ (by omega) (unhide H0)).mono ?_
  rintro e W1 ⟨⟨ia, rfl, hi⟩, S1⟩
  have HI := hide hi
  clear H0 hi
  go_wp2_with fail
  refine (clone32_any _ _ _ V _ (by omega) ?_).mono ?_
  · intro h
    obtain ⟨b, off, e1, e2⟩ := unhide H1 h
    exact ⟨b, off, e1, fun i hi => since_cell S1 (e2 i hi)⟩
  rintro e W2 ⟨⟨va, rfl, hv⟩, S2⟩
  have HV := hide hv
  have T2 := since_since S1 S2
  clear H1 hv
  go_wp2_with fail
  refine (from_any ia va c cv n sh _).mono ?_
  rintro e W3 ⟨rfl, hM, S3⟩
  have HM := hide hM
  have T3 := since_since T2 S3
  clear hM
  go_wp2_with fail
  refine (wf_any W2.heap.size w.heap.size ia va c cv n sh I _ (unhide HM) ?_).mono ?_
  · intro h
    exact ⟨(unhide HI h).1, since_row S3 (since_row S2 (unhide HI h).2)⟩
  rintro e W4 ⟨⟨bw, rfl, hbw⟩, S4⟩
  have T4 := since_since T3 S4
  cases bw
  · clear hbw
    go_wp2
    go_ret
    exact ⟨rfl, T4⟩
  obtain ⟨rfl, hC, hW⟩ := hbw.1 rfl
  have hbd := hC.bd
  have h8 : 8 ≤ cv := hbd.2.2.1
  obtain ⟨rfl, ri⟩ := unhide HI (by omega)
  obtain ⟨rfl, rv⟩ := unhide HV (by omega)
  have hMA : MapAt W4 W2.heap.size w.heap.size W1.heap.size cv n sh I V := ⟨since_row S4 (unhide HM), since_row S4 (since_row S3 (since_row S2 ri)), since_row S4 (since_row S3 rv)⟩
  have HMA := hide hMA
  have HC := hide hC
  have HW := hide hW
  clear hbw hC hW hbd ri rv hMA HI HV HM S1 S2 S3 S4 T2 T3
  go_wp2
  go_loopg [12, 13] cv (fun g s12 s13 wr => ∃ (k : Nat) (z : Int), k ≤ cv ∧ g = cv - k ∧ s13 = .int .i64 k ∧ s12 = .int .i64 z ∧ Hid (Scan I x k z) ∧ wr = W4)
  case atStart => exact ⟨0, -1, Nat.zero_le _, rfl, rfl, rfl, .inl ⟨rfl, fun j hj => absurd hj (Nat.not_lt_zero _)⟩, rfl⟩
  case round =>
    obtain ⟨k, z, hk, rfl, rfl, rfl, HS, rfl⟩ := hrel
    by_cases hlt : k < cv
    · have cc : wr.cell? ⟨w.heap.size, k, none⟩ = some (.int .i64 (I k)) := (unhide HMA).ids.cell hlt
      by_cases hne : I k = -1
      · have t1 : (I k != -1) = false := by simp [hne]
        have HN := hide hne
        clear hne
        go_wp2
        go_roundg (cv - (k + 1))
        case measure => go_light; omega
        case rel => go_light; exact ⟨k + 1, z, by omega, rfl, by go_num, rfl, (unhide HS).miss (fun h => h.1 (unhide HN)), rfl⟩
      · have t1 : (I k != -1) = true := by simpa using hne
        have HN := hide hne
        clear hne
        by_cases hx : I k = x
        · have t2 : (I k == x) = true := by simp [hx]
          have HX := hide hx
          clear hx
          go_wp2
          go_roundg (cv - (k + 1))
          case measure => go_light; omega
          case rel => go_light; exact ⟨k + 1, (k : Int), by omega, rfl, by go_num, rfl, .inr ⟨k, by omega, rfl, unhide HX, unhide HN⟩, rfl⟩
        · have t2 : (I k == x) = false := by simp [hx]
          have HX := hide hx
          clear hx
          go_wp2
          go_roundg (cv - (k + 1))
          case measure => go_light; omega
          case rel => go_light; exact ⟨k + 1, z, by omega, rfl, by go_num, rfl, (unhide HS).miss (fun h => (unhide HX) h.2), rfl⟩
    · obtain rfl : k = cv := by omega
      go_wp2_with fail
      refine (get_any W2.heap.size w.heap.size W1.heap.size k n sh x I V _ (unhide HMA) (unhide HC) (unhide HW)).mono ?_
      rintro e w5 ⟨hg, hw5⟩
      subst w5
      rcases hg with ⟨j, hj, e1, e2, rfl⟩ | ⟨hno, rfl⟩
      · obtain ⟨j', hj', rfl, e3, e4⟩ : ∃ j', j' < k ∧ z = (j' : Int) ∧ I j' = x ∧ I j' ≠ -1 := by
          rcases unhide HS with ⟨_, h⟩ | h
          · exact absurd e1 (h j hj (by rw [e1]; exact e2))
          · exact h
        obtain rfl : j' = j := (unhide HW).inj hj' hj e4 (by rw [e3, e1])
        have cc : wr.cell? ⟨W1.heap.size, j', none⟩ = some (.int .i32 (V j')) := (unhide HMA).vals.cell hj
        have t5 : (V j' == V j') = true := by simp
        clear e1 e2 e3 e4 HS
        go_wp2
        go_ret
        exact ⟨rfl, T4⟩
      · have hz : z = -1 := by
          rcases unhide HS with ⟨h, _⟩ | ⟨j', hj', _, e3, e4⟩
          · exact h
          · exact absurd e3 (hno j' hj' e4)
        subst hz
        clear hno HS
        go_wp2
        go_ret
        exact ⟨rfl, T4⟩
end Go.Proofs.Qxb6003683a
