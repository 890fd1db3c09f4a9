import Derived.Test.Qxb6003683aScriptMem
namespace Go.Proofs.Qxb6003683a
open Go.RowKit
open Tab (nx pos dst cnt WF upd Holds DInv held key val Model Hits)

set_option maxHeartbeats 4000000 in
set_option maxRecDepth 100000 in
theorem script_main (a0 : Option Addr) (c c0 : Nat) (a1 : Option Addr) (cv c1 : Nat) (n sh : Int) (a4 : Option Addr) (nd c4 : Nat) (I V dl : Nat → Int) (w : World)
    (h0 : 0 < c → ∃ b off, a0 = some ⟨b, off, none⟩ ∧ ∀ i, i < c → w.cell? ⟨b, off + i, none⟩ = some (.int .i64 (I i)))
    (h1 : 0 < cv → ∃ b off, a1 = some ⟨b, off, none⟩ ∧ ∀ i, i < cv → w.cell? ⟨b, off + i, none⟩ = some (.int .i32 (V i)))
    (h4 : 0 < nd → ∃ b off, a4 = some ⟨b, off, none⟩ ∧ ∀ i, i < nd → w.cell? ⟨b, off + i, none⟩ = some (.int .i64 (dl i))) :
    Calls Try.prog 5 #[.slice a0 c c0, .slice a1 cv c1, .int .i64 n, .int .u64 sh, .slice a4 nd c4] w fun e w' => e = .returned (.bool true) ∧ w.Since w.heap.size w' := by
  have H0 := hide h0
  have H1 := hide h1
  have H4 := hide h4
  clear h0 h1 h4
  go_enter Try.func5, Try.ntmps5
  go_wp2_with fail
  refine (bytes17 a0 a1 a4 c c0 cv c1 nd c4 n sh _).mono ?_
  rintro e w0 ⟨⟨b17, rfl⟩, hw0⟩
  subst w0
  cases b17
  · go_wp2
    go_ret
    exact ⟨rfl, World.Since.refl _ _⟩
  go_wp2_with fail
  all_goals first | (go_ret; exact ⟨rfl, World.Since.refl _ _⟩) | skip
  have q0 : c ≤ 1024 := by omega
  have q1 : cv ≤ 1024 := by omega
  have q4 : nd ≤ 64 := by omega
  go_loopg [11] nd (fun g i wr => ∃ k : Nat, k ≤ nd ∧ g = nd - k ∧ i = .int .i64 k ∧ Hid (∀ j, j < k → 0 ≤ dl j) ∧ wr = w)
  case atStart => exact ⟨0, Nat.zero_le _, rfl, rfl, fun _ hj => absurd hj (Nat.not_lt_zero _), rfl⟩
  case round =>
    obtain ⟨k, hk, rfl, rfl, HD, hwr⟩ := hrel
    subst wr
    by_cases hlt : k < nd
    · obtain ⟨b, off, rfl, hc⟩ := unhide H4 (by omega)
      have cc := hc k hlt
      clear hc
      by_cases hneg : dl k < 0
      · go_wp2
        go_ret
        exact ⟨rfl, World.Since.refl _ _⟩
      · go_wp2
        go_roundg (nd - (k + 1))
        case measure => go_light; omega
        case rel =>
          go_light
          refine ⟨k + 1, by omega, rfl, by go_num, fun j hj => ?_, rfl⟩
          by_cases e : j = k
          · subst e; omega
          · exact unhide HD j (by omega)
    · obtain rfl : k = nd := by omega
      clear hk hlt
      go_wp2_with fail
      refine (clone64_any _ _ _ I _ (by omega) (unhide H0)).mono ?_
      rintro e W1 ⟨⟨ia, rfl, hi⟩, S1⟩
      have HI := hide hi
      clear H0 hi
      go_wp2_with fail
      refine (clone32_any _ _ _ V _ (by omega) ?_).mono ?_
      · intro h
        obtain ⟨b, off, e1, e2⟩ := unhide H1 h
        exact ⟨b, off, e1, fun i hi => since_cell S1 (e2 i hi)⟩
      rintro e W2 ⟨⟨va, rfl, hv⟩, S2⟩
      have HV := hide hv
      have T2 := since_since S1 S2
      clear H1 hv
      go_wp2_with fail
      refine (clone64_any _ _ _ dl _ (by omega) ?_).mono ?_
      · intro h
        obtain ⟨b, off, e1, e2⟩ := unhide H4 h
        exact ⟨b, off, e1, fun i hi => since_cell T2 (e2 i hi)⟩
      rintro e W3 ⟨⟨da, rfl, hd⟩, S3⟩
      have HDL := hide hd
      have T3 := since_since T2 S3
      clear H4 hd
      go_wp2_with fail
      refine (from_any ia va c cv n sh _).mono ?_
      rintro e W4 ⟨rfl, hM, S4⟩
      have HM := hide hM
      have T4 := since_since T3 S4
      clear hM
      go_wp2_with fail
      refine (wf_any W3.heap.size w.heap.size ia va c cv n sh I _ (unhide HM) ?_).mono ?_
      · intro h
        exact ⟨(unhide HI h).1, since_row S4 (since_row S3 (since_row S2 (unhide HI h).2))⟩
      rintro e W5 ⟨⟨bw, rfl, hbw⟩, S5⟩
      have T5 := since_since T4 S5
      cases bw
      · clear hbw
        go_wp2
        go_ret
        exact ⟨rfl, T5⟩
      obtain ⟨rfl, hC, hW⟩ := hbw.1 rfl
      have hbd := hC.bd
      have h8 : 8 ≤ cv := hbd.2.2.1
      have qn : (cnt I cv : Int) = n := hW.num
      have qc : cnt I cv ≤ cv := Tab.cnt_le I cv
      obtain ⟨rfl, ri⟩ := unhide HI (by omega)
      obtain ⟨rfl, rv⟩ := unhide HV (by omega)
      have l1 := ri.lt
      have l2 := rv.lt
      have l3 := S3.size
      have l4 := (unhide HM).lt
      have l5 := S5.size
      have l0 := S1.size
      have hS5 : Set4 w W5 W3.heap.size w.heap.size W1.heap.size cv n sh I V := ⟨⟨since_row S5 (unhide HM), since_row S5 (since_row S4 (since_row S3 (since_row S2 ri))), since_row S5 (since_row S4 (since_row S3 rv))⟩, T5, Nat.le_refl _, by omega, by omega, by omega, by omega, by omega⟩
      have hdl : 0 < k → da = some ⟨W2.heap.size, 0, none⟩ ∧ (W5.rowIs W2.heap.size 2 k (fun j => .int .i64 (dl j)) ∧ W2.heap.size ≠ W3.heap.size ∧ W2.heap.size ≠ w.heap.size ∧ W2.heap.size ≠ W1.heap.size) := fun h => ⟨(unhide HDL h).1, since_row S5 (since_row S4 (unhide HDL h).2), by have := (unhide HDL h).2.lt; omega, by omega, by omega⟩
      have HSet := hide hS5
      have HC := hide hC
      have HW := hide hW
      have HDL5 := hide hdl
      have HQN := hide qn
      clear hbw hC hW hbd ri rv hS5 hdl HI HV HM HDL S1 S2 S3 S4 S5 T2 T3 T4 T5 qn
      have la : w.heap.size < W5.heap.size := by omega
      have lb : W1.heap.size < W5.heap.size := by omega
      have ld : W2.heap.size < W5.heap.size := by omega
      have lm : W3.heap.size < W5.heap.size := by omega
      have nda : W2.heap.size ≠ w.heap.size := by omega
      have ndb : W2.heap.size ≠ W1.heap.size := by omega
      have lw : w.heap.size ≤ W5.heap.size := by omega
      -- M and the dels' block are apart: either is what the heap was long
      obtain ⟨i2, e21, e22, e23, e24⟩ := info_parts info2
      obtain ⟨i3, e31, e32, e33, e34⟩ := info_parts info21
      have HI2 := hide (And.intro e21 (And.intro e22 (And.intro e23 e24)))
      have HI3 := hide (And.intro e31 (And.intro e32 (And.intro e33 e34)))
      clear e21 e22 e23 e24 e31 e32 e33 e34
      go_wp2
      go_loopg [13, 14, 15] cv (fun g s13 s14 s15 wr => ∃ (j : Nat) (u v : Value), j ≤ cv ∧ g = cv - j ∧ s13 = u ∧ s14 = v ∧ s15 = .int .i64 j ∧ Hid (Gat W5 wr W5.heap.size j I V u v))
      case atStart => exact ⟨0, _, _, Nat.zero_le _, rfl, rfl, rfl, rfl, ⟨World.Since.refl _ _, World.ownsRow_nil _ _ _ _, World.ownsRow_nil _ _ _ _⟩⟩
      case round =>
        obtain ⟨j, u, v, hj, rfl, rfl, rfl, rfl, HG⟩ := hrel
        have hlen : (held I j).length ≤ j := by rw [Tab.held_len]; exact Tab.cnt_le I j
        by_cases hjl : j < cv
        · have cA : wr.cell? ⟨w.heap.size, j, none⟩ = some (.int .i64 (I j)) := (since_row (unhide HG).since (unhide HSet).at_.ids).cell hjl
          by_cases hne : I j = -1
          · have t1 : (I j != -1) = false := by simp [hne]
            have HN := hide hne
            clear hne
            go_wp2
            go_roundg (cv - (j + 1))
            case measure => go_light; omega
            case rel => go_light; exact ⟨j + 1, _, _, by omega, rfl, rfl, rfl, by go_num, (unhide HG).miss (unhide HN)⟩
          · have t1 : (I j != -1) = true := by simpa using hne
            have HN := hide hne
            clear hne
            have ls := (unhide HG).since.size
            go_wp2_with (at_builtin; refine wpList_append_own _ rfl (.tmp 93) (.tmp 98) 27 rfl W5.heap.size 2 i2 (.int .i64 0) 1 8 Try.underlying27 (unhide HI2).1 (unhide HI2).2.1 (unhide HI2).2.2.1 (unhide HI2).2.2.2 rfl (by decide) _ _ _ rfl ((unhide HG).keys.alloc _) ⟨wr.heap.size, 0, none⟩ 1 1 [.int .i64 (I j)] rfl rfl (cell_one_new _ _ _) (ints_oneCell .i64 [I j]) (by unfold maxLen; omega) (by omega) (by simp; omega) ?_)
            intro u' w1 h1 g1 _
            have hv1 := ((unhide HG).vals.alloc (.cells #[.int .i64 (I j)] 2)).kept g1 (own_diff (unhide HG).vals (unhide HG).keys (by omega))
            have S1 : W5.Since W5.heap.size w1 := ((unhide HG).since.alloc ls _).grown g1 (by simp; omega) (fun q hq => ((unhide HG).keys.lt q hq).1)
            have cB : w1.cell? ⟨W1.heap.size, j, none⟩ = some (.int .i32 (V j)) := (since_row S1 (unhide HSet).at_.vals).cell hjl
            have ls1 := S1.size
            have Hh1 := hide h1
            have Hg1 := hide g1
            have Hhv := hide hv1
            clear h1 g1 hv1 S1 cA
            go_wp2_with (at_builtin; refine wpList_append_own _ rfl (.tmp 100) (.tmp 105) 28 rfl W5.heap.size 21 i3 (.int .i32 0) 1 4 Try.underlying28 (unhide HI3).1 (unhide HI3).2.1 (unhide HI3).2.2.1 (unhide HI3).2.2.2 rfl (by decide) _ _ _ rfl ((unhide Hhv).alloc _) ⟨w1.heap.size, 0, none⟩ 1 1 [.int .i32 (V j)] rfl rfl (cell_one_new _ _ _) (ints_oneCell .i32 [V j]) (by unfold maxLen; omega) (by omega) (by simp; omega) ?_)
            intro v' w2 h2 g2 _
            have R := (unhide HG).hit (unhide HN) (unhide Hh1) (unhide Hg1) h2 g2 (unhide Hhv)
            have HR := hide R
            clear h2 g2 Hh1 Hg1 Hhv R cB
            go_wp2
            go_roundg (cv - (j + 1))
            case measure => go_light; omega
            case rel => go_light; exact ⟨j + 1, _, _, by omega, rfl, rfl, rfl, by go_num, HR⟩
        · obtain rfl : j = cv := by omega
          have hmk := run_make_row' (P := Try.prog) 39 4 (.bool false) 1 Try.underlying39 info4 rfl .i64 .i64 (cnt I j) (by omega) (by omega)
          obtain ⟨ka, kc, va, vc, rfl, rfl, hE⟩ := env_start (unhide HSet) lm la lb (unhide HDL5) (unhide HG)
          have HE := hide hE
          clear hE HG HSet HDL5 hlen HI2 HI3
          generalize W3.heap.size = M at *
          generalize W1.heap.size = B at *
          go_wp2
          clear hmk
          generalize wr.heap.size = AL at *
          -- alive[i] = true
          go_loopg [17] (cnt I j) (fun g s17 wx => ∃ q : Nat, q ≤ cnt I j ∧ g = cnt I j - q ∧ s17 = .int .i64 q ∧ Hid (Env w wx M w.heap.size B AL j k sh da ka va I V dl n (fun i => decide (i < q)) I V))
          case atStart => exact ⟨0, Nat.zero_le _, rfl, rfl, (unhide HE).reflag (fun i _ => by simp)⟩
          case round =>
            obtain ⟨q, hq, rfl, rfl, HE2⟩ := hrel
            clear HE
            by_cases hql : q < cnt I j
            · have cF : wr.cell? ⟨AL, q, none⟩ = some (.bool (decide (q < q))) := (unhide HE2).flags.cell hql
              have zF := (unhide HE2).flags.frozen q
              go_wp2
              go_roundg (cnt I j - (q + 1))
              case measure => go_light; omega
              case rel =>
                go_light
                refine ⟨q + 1, by omega, rfl, by go_num, ((unhide HE2).flag q true).reflag (fun i _ => ?_)⟩
                by_cases e : i = q
                · subst e; simp
                · rw [if_neg e]
                  by_cases h : i < q
                  · rw [decide_eq_true h, decide_eq_true (by omega)]
                  · rw [decide_eq_false h, decide_eq_false (by omega)]
            · obtain rfl : q = cnt I j := by omega
              have HE3 := hide ((unhide HE2).reflag (al' := fun _ => true) (fun i hi => by simp [hi]))
              have HMo : Hid (Model j I V (fun _ => true) I V) := Tab.Model.start
              clear HE2 hq hql
              go_wp2
              -- the script
              go_loopg [18, 19] k (fun g s18 s19 wx => ∃ (t : Nat) (n1 : Int) (al : Nat → Bool) (I1 V1 : Nat → Int), t ≤ k ∧ g = k - t ∧ s19 = .int .i64 t ∧ s18 = .int .i64 n1 ∧ Hid (Env w wx M w.heap.size B AL j k sh da ka va I V dl n1 al I1 V1) ∧ Hid (WF j (homeN sh) n1 I1) ∧ Hid (Model j I V al I1 V1))
              case atStart => exact ⟨0, n, fun _ => true, I, V, Nat.zero_le _, rfl, rfl, by rw [unhide HQN], HE3, HW, HMo⟩
              case round =>
                obtain ⟨t, n1, al, I1, V1, ht, rfl, rfl, rfl, HE4, HW1, HM1⟩ := hrel
                clear HE3 HMo
                have qn0 : 0 ≤ n1 := by have := (unhide HW1).num; omega
                have qn1 : n1 ≤ 1024 := by have := (unhide HW1).num; have := Tab.cnt_le I1 j; omega
                by_cases htl : t < k
                · obtain ⟨gd, rfl, cD⟩ := (unhide HE4).dels.cell htl
                  have hd0 := unhide HD t htl
                  generalize dl t = d at cD hd0
                  go_wp2_with fail
                  refine (del_any M w.heap.size B j n1 sh d I1 V1 _ (unhide HE4).set.at_ (unhide HC) (unhide HW1) hd0 (unhide HE4).set.ma (unhide HE4).set.mb (unhide HE4).set.ab).mono ?_
                  rintro e W7 ⟨rfl, hDl, hO⟩
                  obtain ⟨I2, V2, n2, hm2, hw2, hh2, hcase⟩ : ∃ I2 V2 n2, MapAt W7 M w.heap.size B j n2 sh I2 V2 ∧ WF j (homeN sh) n2 I2 ∧ (∀ y v, y ≠ -1 → (Holds j I2 V2 y v ↔ Holds j I1 V1 y v ∧ y ≠ d)) ∧ (((∀ i, i < j → I1 i ≠ d) ∧ n2 = n1) ∨ ((∃ i, i < j ∧ I1 i = d) ∧ n2 = n1 - 1)) := by
                    rcases hDl with ⟨a1, a2⟩ | ⟨a1, I', V', a2, a3, a4⟩
                    · refine ⟨I1, V1, n1, a2, unhide HW1, fun y v _ => ⟨fun hy => ⟨hy, fun e => ?_⟩, fun hy => hy.1⟩, .inl ⟨a1, rfl⟩⟩
                      obtain ⟨i, hi, e1, _⟩ := hy
                      exact a1 i hi (by rw [e1, e])
                    · exact ⟨I', V', n1 - 1, a2, a3, a4, .inr ⟨a1, rfl⟩⟩
                  have HE5 := hide ((unhide HE4).turn hm2 hO)
                  have HW2 := hide hw2
                  have HH2 := hide hh2
                  have HCS := hide hcase
                  clear hDl hO hm2 hw2 hh2 hcase HE4 HW1 cD
                  go_wp2
                  -- the flags of d go down
                  go_loopg [18, 21] (cnt I j) (fun g s18 s21 wx => ∃ (i : Nat) (q : Int), i ≤ cnt I j ∧ g = cnt I j - i ∧ 0 ≤ q ∧ q ≤ 1 ∧ s21 = .int .i64 i ∧ s18 = .int .i64 (n1 - q) ∧ Hid (Hits I j al d i q) ∧ Hid (Env w wx M w.heap.size B AL j k sh (some ⟨gd, 0, none⟩) ka va I V dl n2 (fun p => if p < i then (al p && decide (key I j p ≠ d)) else al p) I2 V2))
                  case atStart => exact ⟨0, 0, Nat.zero_le _, rfl, by omega, by omega, rfl, by simp, Tab.Hits.start, (unhide HE5).reflag (fun p _ => by simp)⟩
                  case round =>
                    obtain ⟨i, q, hi, rfl, hq0, hq1, rfl, rfl, HH, HE6⟩ := hrel
                    clear HE5
                    by_cases hil : i < cnt I j
                    · have cF : wr.cell? ⟨AL, i, none⟩ = some (.bool (al i)) := by
                        have := (unhide HE6).flags.cell hil
                        simpa using this
                      have zF := (unhide HE6).flags.frozen i
                      have hstep : ∀ (b : Bool), b = (al i && decide (key I j i ≠ d)) → ∀ p, p < cnt I j → (if p = i then b else if p < i then (al p && decide (key I j p ≠ d)) else al p) = if p < i + 1 then (al p && decide (key I j p ≠ d)) else al p := by
                        intro b hb p _
                        by_cases e : p = i
                        · subst e; rw [if_pos rfl, if_pos (by omega)]; exact hb
                        · rw [if_neg e]
                          by_cases h : p < i
                          · rw [if_pos h, if_pos (by omega)]
                          · rw [if_neg h, if_neg (by omega)]
                      have hsame : ∀ (b : Bool), al i = b → b = (al i && decide (key I j i ≠ d)) → ∀ p, p < cnt I j → (if p < i then (al p && decide (key I j p ≠ d)) else al p) = if p < i + 1 then (al p && decide (key I j p ≠ d)) else al p := by
                        intro b hab hb p hp
                        have := hstep b hb p hp
                        by_cases e : p = i
                        · subst e
                          rw [if_pos rfl] at this
                          rw [if_neg (by omega), ← this, hab]
                        · rw [if_neg e] at this; exact this
                      have HST := hide hstep
                      have HSM := hide hsame
                      clear hstep hsame
                      cases hal : al i with
                      | false =>
                        rw [hal] at cF
                        have HAL := hide hal
                        clear hal
                        go_wp2
                        go_roundg (cnt I j - (i + 1))
                        case measure => go_light; omega
                        case rel =>
                          go_light
                          exact ⟨i + 1, q, by omega, rfl, hq0, hq1, by go_num, rfl, (unhide HH).miss (fun h => by rw [unhide HAL] at h; cases h.1), (unhide HE6).reflag (unhide HSM false (unhide HAL) (by rw [unhide HAL]; rfl))⟩
                      | true =>
                        rw [hal] at cF
                        have HAL := hide hal
                        clear hal
                        obtain ⟨gk, rfl, cK⟩ := (unhide HE6).keys.cell hil
                        by_cases hkd : key I j i = d
                        · have t3 : (key I j i == d) = true := by simp [hkd]
                          obtain ⟨rfl, hh⟩ := (unhide HH).hit (unhide HW) hil (unhide HAL) hkd
                          have HH' := hide hh
                          have HKD := hide hkd
                          clear hkd hh HH
                          generalize key I j i = kk at cK t3
                          go_wp2
                          go_roundg (cnt I j - (i + 1))
                          case measure => go_light; omega
                          case rel =>
                            go_light
                            exact ⟨i + 1, 1, by omega, rfl, by omega, by omega, by go_num, by go_num, HH', ((unhide HE6).flag i false).reflag (unhide HST false (by rw [unhide HKD]; simp))⟩
                        · have t3 : (key I j i == d) = false := by simp [hkd]
                          have HKD := hide hkd
                          clear hkd
                          generalize key I j i = kk at cK t3
                          go_wp2
                          go_roundg (cnt I j - (i + 1))
                          case measure => go_light; omega
                          case rel =>
                            go_light
                            exact ⟨i + 1, q, by omega, rfl, hq0, hq1, by go_num, rfl, (unhide HH).miss (fun h => unhide HKD h.2), (unhide HE6).reflag (unhide HSM true (unhide HAL) (by rw [unhide HAL]; simp [unhide HKD]))⟩
                    · obtain rfl : i = cnt I j := by omega
                      have hn2 : n2 = n1 - q := by
                        rcases (unhide HH).iff (unhide HM1) (by omega) with ⟨a1, a2⟩ | ⟨a1, i', hi', a2⟩
                        · rcases unhide HCS with ⟨_, a3⟩ | ⟨⟨i', hi', a3⟩, _⟩
                          · omega
                          · exact absurd a3 (a2 i' hi')
                        · rcases unhide HCS with ⟨a3, _⟩ | ⟨_, a3⟩
                          · exact absurd a2 (a3 i' hi')
                          · omega
                      subst hn2
                      have HM2 := hide ((unhide HM1).del (al' := fun p => if p < cnt I j then (al p && decide (key I j p ≠ d)) else al p) (unhide HH2) (fun p hp => if_pos hp))
                      clear HH HM1 HCS hi hil
                      go_wp2_with fail
                      refine (wf_any M w.heap.size _ _ j j (n1 - q) sh I2 _ (unhide HE6).set.at_.m (fun _ => ⟨rfl, (unhide HE6).set.at_.ids⟩)).mono ?_
                      rintro e W8 ⟨⟨bw, rfl, hbw⟩, S8⟩
                      obtain rfl : bw = true := hbw.2 ⟨rfl, unhide HC, unhide HW2⟩
                      have HE7 := hide ((unhide HE6).keep S8)
                      clear hbw S8 HE6
                      go_wp2_with fail
                      refine (len_any M _ _ j j (n1 - q) sh _ (unhide HE7).set.at_.m).mono ?_
                      rintro e W9 ⟨rfl, hw9⟩
                      subst W9
                      have t4 : (n1 - q != n1 - q) = false := by simp
                      go_wp2_with fail
                      refine (get_any M w.heap.size B j (n1 - q) sh d I2 V2 _ (unhide HE7).set.at_ (unhide HC) (unhide HW2)).mono ?_
                      rintro e W9 ⟨hg, hw9⟩
                      subst W9
                      rcases hg with ⟨i', hi', e1, e2, rfl⟩ | ⟨_, rfl⟩
                      · exact absurd rfl ((unhide HH2 d (V2 i') e2).1 ⟨i', hi', e1, rfl⟩).2
                      clear HH2 t4
                      go_wp2
                      go_roundg (k - (t + 1))
                      case measure => go_light; omega
                      case rel =>
                        go_light
                        exact ⟨t + 1, n1 - q, _, I2, V2, by omega, rfl, by go_num, rfl, HE7, HW2, HM2⟩
                · obtain rfl : t = k := by omega
                  clear ht htl
                  go_wp2
                  go_loopg [24] (cnt I j) (fun g s24 wx => ∃ i : Nat, i ≤ cnt I j ∧ g = cnt I j - i ∧ s24 = .int .i64 i ∧ Hid (Env w wx M w.heap.size B AL j t sh da ka va I V dl n1 al I1 V1))
                  case atStart => exact ⟨0, Nat.zero_le _, rfl, rfl, HE4⟩
                  case round =>
                    obtain ⟨i, hi, rfl, rfl, HE8⟩ := hrel
                    clear HE4
                    by_cases hil : i < cnt I j
                    · obtain ⟨gk, rfl, cK⟩ := (unhide HE8).keys.cell hil
                      obtain ⟨gv, rfl, cV⟩ := (unhide HE8).vals.cell hil
                      have cF : wr.cell? ⟨AL, i, none⟩ = some (.bool (al i)) := (unhide HE8).flags.cell hil
                      go_wp2_with fail
                      refine (get_any M w.heap.size B j n1 sh (key I j i) I1 V1 _ (unhide HE8).set.at_ (unhide HC) (unhide HW1)).mono ?_
                      rintro e W9 ⟨hg, hw9⟩
                      subst W9
                      cases hal : al i with
                      | true =>
                        rw [hal] at cF
                        obtain ⟨p, hp, e1, e2⟩ := (unhide HM1).alive hil hal
                        rcases hg with ⟨p', hp', e3, e4, rfl⟩ | ⟨hno, rfl⟩
                        · obtain rfl : p' = p := (unhide HW1).inj hp' hp (by rw [e3]; exact e4) (by rw [e3, e1])
                          rw [e2]
                          generalize val I V j i = vv at cV
                          have t5 : (vv != vv) = false := by simp
                          clear e1 e2 e3 e4 hal
                          go_wp2
                          go_roundg (cnt I j - (i + 1))
                          case measure => go_light; omega
                          case rel => go_light; exact ⟨i + 1, by omega, rfl, by go_num, HE8⟩
                        · exact absurd e1 (hno p hp (by rw [e1]; exact Tab.key_ne hil))
                      | false =>
                        rw [hal] at cF
                        have hdead := (unhide HM1).dead (unhide HW) hil hal
                        rcases hg with ⟨p', hp', e3, e4, rfl⟩ | ⟨hno, rfl⟩
                        · exact absurd e3 (hdead p' hp')
                        · clear hdead hno hal
                          go_wp2
                          go_roundg (cnt I j - (i + 1))
                          case measure => go_light; omega
                          case rel => go_light; exact ⟨i + 1, by omega, rfl, by go_num, HE8⟩
                    · go_wp2
                      go_ret
                      exact ⟨rfl, (unhide HE8).set.since⟩
end Go.Proofs.Qxb6003683a
