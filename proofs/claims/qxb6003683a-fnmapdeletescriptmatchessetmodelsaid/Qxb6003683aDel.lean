import Derived.Test.Qxb6003683aGet
import Derived.Test.Qxb6003683aPlain2
import Derived.BigRegion
namespace Go.Proofs.Qxb6003683a
open Go.RowKit
open Tab (nx pos dst cnt WF upd Holds DInv)

/-- Nothing but the blocks M, a, b has turned. -/
structure Only3 (M a b : Nat) (w w' : World) : Prop where
  os : w'.os = w.os
  tape : w'.tape = w.tape
  output : w'.output = w.output
  size : w'.heap.size = w.heap.size
  block : ∀ k, k ≠ M → k ≠ a → k ≠ b → w'.heap[k]? = w.heap[k]?

theorem Only3.refl (M a b : Nat) (w : World) : Only3 M a b w w := ⟨rfl, rfl, rfl, rfl, fun _ _ _ _ => rfl⟩
theorem Only3.trans {M a b : Nat} {w w' w'' : World} (h : Only3 M a b w w') (k : Only3 M a b w' w'') : Only3 M a b w w'' :=
  ⟨k.os.trans h.os, k.tape.trans h.tape, k.output.trans h.output, k.size.trans h.size, fun i h1 h2 h3 => (k.block i h1 h2 h3).trans (h.block i h1 h2 h3)⟩
theorem Only3.drew {M a b : Nat} {w w' : World} (h : Only3 M a b w w') : Only3 M a b w w'.drew := ⟨h.os, h.tape, h.output, h.size, h.block⟩
theorem Only3.set {M a b : Nat} {w w' : World} (h : Only3 M a b w w') {q : Addr} (hq : q.block = M ∨ q.block = a ∨ q.block = b) (v : Value) : Only3 M a b w (w'.setCell q v) := by
  refine h.trans ⟨rfl, rfl, rfl, by simp [World.setCell], fun k h1 h2 h3 => Below.heap_setCell _ _ _ _ ?_⟩
  rcases hq with e | e | e
  · rw [e]; exact h1
  · rw [e]; exact h2
  · rw [e]; exact h3
theorem Only3.row {M a b : Nat} {w w' : World} (h : Only3 M a b w w') {k t n : Nat} {f : Nat → Value} (hr : w.rowIs k t n f) (h1 : k ≠ M) (h2 : k ≠ a) (h3 : k ≠ b) : w'.rowIs k t n f := hr.of_block (h.block k h1 h2 h3)

section
variable {w : World} {M a b c : Nat} {n sh : Int} {I V : Nat → Int}
/-- ids[i], vals[i] = x, v. -/
theorem MapAt.store (h : MapAt w M a b c n sh I V) (hMa : M ≠ a) (hMb : M ≠ b) (hab : a ≠ b) (i : Nat) (x v : Int) :
    MapAt ((w.setCell ⟨a, i, none⟩ (.int .i64 x)).setCell ⟨b, i, none⟩ (.int .i32 v)) M a b c n sh (upd I i x) (upd V i v) := by
  refine ⟨(h.m.setOther hMa _).setOther hMb _, ((h.ids.set i _).setOther hab _).congr (fun j _ => ?_), ((h.vals.setOther (fun e => hab e.symm) _).set i _).congr (fun j _ => ?_)⟩
  · unfold upd; split <;> rfl
  · unfold upd; split <;> rfl
theorem MapAt.drew (h : MapAt w M a b c n sh I V) : MapAt w.drew M a b c n sh I V := ⟨h.m.drew, h.ids.drew, h.vals.drew⟩
/-- m.len = n'. -/
theorem MapAt.setLen (h : MapAt w M a b c n sh I V) (hMa : M ≠ a) (hMb : M ≠ b) (n' : Int) : MapAt (w.setCell ⟨M, 2, none⟩ (.int .i64 n')) M a b c n' sh I V := by
  refine ⟨(h.m.set 2 _).congr (fun j _ => ?_), h.ids.setOther (fun e => hMa e.symm) _, h.vals.setOther (fun e => hMb e.symm) _⟩
  unfold mf
  by_cases e : j = 2
  · subst e; rfl
  · simp [e]
end

/-- What Delete leaves. -/
def DelOut (M a b c : Nat) (n sh x : Int) (I V : Nat → Int) (w' : World) : Prop :=
  ((∀ j, j < c → I j ≠ x) ∧ MapAt w' M a b c n sh I V) ∨
  ((∃ j, j < c ∧ I j = x) ∧ ∃ I' V', MapAt w' M a b c (n - 1) sh I' V' ∧ WF c (homeN sh) (n - 1) I' ∧ ∀ y v, y ≠ -1 → (Holds c I' V' y v ↔ Holds c I V y v ∧ y ≠ x))

theorem least_off {c : Nat} {I : Nat → Int} {p0 e0 : Nat} (hp : p0 < c) (he : e0 < c) (h1 : I e0 = -1) (h2 : I p0 ≠ -1) :
    ∃ L, 1 ≤ L ∧ L < c ∧ I (pos c p0 L) = -1 ∧ ∀ t, 1 ≤ t → t < L → I (pos c p0 t) ≠ -1 := by
  obtain ⟨L, ⟨a1, a2, a3⟩, hmin⟩ := exists_least (p := fun L => 1 ≤ L ∧ L < c ∧ I (pos c p0 L) = -1) ⟨dst c p0 e0, by
    have hne : p0 ≠ e0 := fun e => h2 (by rw [e]; exact h1)
    have := Tab.dst_lt hp he
    refine ⟨?_, this, by rw [Tab.pos_dst hp he]; exact h1⟩
    unfold dst; split <;> omega⟩
  refine ⟨L, a1, a2, a3, fun t h3 h4 h5 => ?_⟩
  have := hmin t ⟨h3, by omega, h5⟩
  omega

set_option maxHeartbeats 4000000 in
set_option maxRecDepth 100000 in
theorem del_any (M a b c : Nat) (n sh x : Int) (I V : Nat → Int) (w : World) (hM : MapAt w M a b c n sh I V) (hC : IsC c sh) (hW : WF c (homeN sh) n I) (hx : 0 ≤ x) (hMa : M ≠ a) (hMb : M ≠ b) (hab : a ≠ b) :
    Calls Try.prog 18 #[.pointer (some ⟨M, 0, none⟩), .int .i64 x] w fun e w' => e = .returned (.tuple #[]) ∧ DelOut M a b c n sh x I V w' ∧ Only3 M a b w w' := by
  have hbd := hC.bd
  have h8 : 8 ≤ c := hbd.2.2.1
  have h1024 : c ≤ 1024 := hbd.2.2.2
  have f0 : w.cell? ⟨M, 0, none⟩ = some (.slice (some ⟨a, 0, none⟩) c c) := hM.m.cell (by omega)
  have f2 : w.cell? ⟨M, 2, none⟩ = some (.int .i64 n) := hM.m.cell (by omega)
  have hn0 : 0 ≤ n := by have := hW.num; omega
  have hnc : n ≤ 1024 := by have := hW.num; have := Tab.cnt_le I c; omega
  by_cases hz : n = 0
  · subst hz
    have hall := Tab.cnt_zero (I := I) (k := c) (by have := hW.num; omega)
    have HA := hide hall
    have HM := hide hM
    clear hall hM hC hW hbd
    go_enter Try.func18, Try.ntmps18
    go_wp2
    exact bodyPost_ret (v := .tuple #[]) (by simp [results, Try.results18, go_sem]) rfl ⟨rfl, .inl ⟨fun j hj e => by have := unhide HA j hj; omega, unhide HM⟩, Only3.refl _ _ _ _⟩
  obtain ⟨e0, he0, hee⟩ := Tab.hole_of (I := I) (c := c) (by have := hW.half; omega)
  have hH : ∀ x, homeN sh x < c := fun x => (home_num hC x).2
  have hhl := hH x
  have hpe : I (pos c (homeN sh x) (dst c (homeN sh x) e0)) = -1 := by rw [Tab.pos_dst hhl he0]; exact hee
  have hdl := Tab.dst_lt hhl he0
  have HM := hide hM
  have HC := hide hC
  have HW := hide hW
  have HH := hide hH
  have HE := hide (And.intro he0 hee)
  have hz' : (n == 0) = false := by simp [hz]
  clear hM hC hW hbd hH hz
  go_enter Try.func18, Try.ntmps18
  go_wp2_with fail
  refine (home_any M _ _ c c c n sh x _ (unhide HM).m (unhide HC)).mono ?_
  rintro e w1 ⟨rfl, hw1⟩
  subst w1
  generalize hh : homeN sh x = h at hhl hpe hdl ⊢
  generalize dst c h e0 = D at hpe hdl
  have HHx := hide hh
  have HPE := hide hpe
  clear hh hpe hee he0
  go_wp2
  go_loopg [5] D (fun g s5 wr => ∃ d : Nat, d ≤ D ∧ g = D - d ∧ s5 = .int .i64 (pos c h d : Nat) ∧ Hid (∀ d', d' < d → I (pos c h d') ≠ x) ∧ wr = w)
  case atStart => exact ⟨0, Nat.zero_le _, rfl, by rw [Tab.pos_zero hhl], fun d' hd' => absurd hd' (Nat.not_lt_zero _), rfl⟩
  case round =>
    obtain ⟨d, hd, rfl, rfl, H4, hwr⟩ := hrel
    subst wr
    have hpl : pos c h d < c := Tab.pos_lt hhl (by omega)
    have c2 : w.cell? ⟨a, pos c h d, none⟩ = some (.int .i64 (I (pos c h d))) := (unhide HM).ids.cell hpl
    have hnx := mask_nx (unhide HC) hpl
    by_cases hxx : I (pos c h d) = x
    rotate_left
    · have t9 : (I (pos c h d) != x) = true := by simpa using hxx
      have HX := hide hxx
      clear hxx
      by_cases hne : I (pos c h d) = -1
      · have t8 : (I (pos c h d) == -1) = true := by simp [hne]
        have HN := hide hne
        clear hne
        generalize hq : pos c h d = q at *
        have HQ := hide hq
        clear hq
        go_wp2
        refine bodyPost_ret (v := .tuple #[]) (by simp [results, Try.results18, go_sem]) rfl ⟨rfl, .inl ⟨?_, unhide HM⟩, Only3.refl _ _ _ _⟩
        have habs := Tab.absent (unhide HW) (unhide HH) (x := x) (d := d) (by rw [unhide HHx, unhide HQ]; exact unhide HN) (by rw [unhide HHx]; exact unhide H4)
        intro j hj e
        by_cases ej : I j = -1
        · omega
        · exact habs j hj ej e
      · have t8 : (I (pos c h d) == -1) = false := by simp [hne]
        have hdD : d < D := by
          by_cases e : d = D
          · subst e; exact absurd (unhide HPE) hne
          · omega
        rw [Tab.nx_pos hhl (by omega)] at hnx
        have HN := hide hne
        clear hne
        generalize hq : pos c h d = q at *
        have HQ := hide hq
        clear hq
        go_wp2
        go_roundg (D - (d + 1))
        case measure => go_light; omega
        case rel =>
          go_light
          refine ⟨d + 1, by omega, rfl, rfl, fun d' hd' => ?_, rfl⟩
          by_cases ed : d' = d
          · subst ed; rw [unhide HQ]; exact unhide HX
          · exact unhide H4 d' (by omega)
    have t9 : (I (pos c h d) != x) = false := by simp [hxx]
    have HX := hide hxx
    clear hxx H4 HPE
    generalize hq : pos c h d = p0 at *
    clear hq
    have hI0 : I p0 ≠ -1 := by rw [unhide HX]; omega
    obtain ⟨L, L1, L2, L3, L4⟩ := least_off hpl (unhide HE).1 (unhide HE).2 hI0
    have hD0 : DInv c (homeN sh) x I V p0 L 1 0 I V := DInv.start (unhide HW) hpl (unhide HX) (by omega) L1 L2 L3
    have HL4 := hide L4
    have HD0 := hide hD0
    have HI0 := hide hI0
    have e1 : nx c p0 = pos c p0 1 := by
      have := Tab.nx_pos (h := p0) (d := 0) hpl (by omega)
      rwa [Tab.pos_zero hpl] at this
    rw [e1] at hnx
    clear L3 L4 hD0 hI0 e1
    go_wp2
    clear f0 f2 c2 hnx t9
    go_loopg [5, 6] (L - 1) (fun g s5 s6 wq => ∃ (t s : Nat) (I' V' : Nat → Int), g = L - t ∧ s5 = .int .i64 (pos c p0 s : Nat) ∧ s6 = .int .i64 (pos c p0 t : Nat) ∧ Hid (DInv c (homeN sh) x I V p0 L t s I' V') ∧ Hid (MapAt wq M a b c n sh I' V') ∧ Hid (Only3 M a b w wq))
    case atStart => exact ⟨1, 0, I, V, rfl, by rw [Tab.pos_zero hpl], rfl, HD0, HM, Only3.refl _ _ _ _⟩
    case round =>
      obtain ⟨t, s, I', V', rfl, rfl, rfl, HD, HMt, HO⟩ := hrel
      clear HD0
      have hst := (unhide HD).st
      have htL := (unhide HD).tL
      have hpi : pos c p0 s < c := Tab.pos_lt hpl (by omega)
      have hpj : pos c p0 t < c := Tab.pos_lt hpl (by omega)
      have hij : pos c p0 t ≠ pos c p0 s := fun e => by have := Tab.pos_inj hpl (by omega) (by omega) e; omega
      have f0 : wr.cell? ⟨M, 0, none⟩ = some (.slice (some ⟨a, 0, none⟩) c c) := (unhide HMt).m.cell (by omega)
      have f1 : wr.cell? ⟨M, 1, none⟩ = some (.slice (some ⟨b, 0, none⟩) c c) := (unhide HMt).m.cell (by omega)
      have f2 : wr.cell? ⟨M, 2, none⟩ = some (.int .i64 n) := (unhide HMt).m.cell (by omega)
      have z2 := (unhide HMt).m.frozen 2
      have aj : wr.cell? ⟨a, pos c p0 t, none⟩ = some (.int .i64 (I' (pos c p0 t))) := (unhide HMt).ids.cell hpj
      have ai : wr.cell? ⟨a, pos c p0 s, none⟩ = some (.int .i64 (I' (pos c p0 s))) := (unhide HMt).ids.cell hpi
      have bj : wr.cell? ⟨b, pos c p0 t, none⟩ = some (.int .i32 (V' (pos c p0 t))) := (unhide HMt).vals.cell hpj
      have bi : wr.cell? ⟨b, pos c p0 s, none⟩ = some (.int .i32 (V' (pos c p0 s))) := (unhide HMt).vals.cell hpi
      have zai := (unhide HMt).ids.frozen (pos c p0 s)
      have zbi := (unhide HMt).vals.frozen (pos c p0 s)
      by_cases hend : I' (pos c p0 t) = -1
      · -- the shift is over
        have htl : t = L := by
          by_cases e : t = L
          · exact e
          · have hce := (unhide HD).cell
            rw [hend] at hce
            exact absurd hce.symm (unhide HL4 t (by omega) (by omega))
        have t8 : (I' (pos c p0 t) != -1) = false := by simp [hend]
        have hdone := (unhide HD).done hpl (unhide HH) (unhide HW) htl
        have HDN := hide hdone
        clear hdone hend bj hij htl
        generalize hqj : pos c p0 t = j at *
        generalize hqi : pos c p0 s = i at *
        clear hqj hqi
        have hb1 : ∀ v, (wr.setCell ⟨a, i, none⟩ v).cell? ⟨b, i, none⟩ = some (.int .i32 (V' i)) := fun v => by
          rw [World.cell?_setCell_other _ _ _ _ (fun e => hab (by have := congrArg Addr.block e; simpa using this))]; exact bi
        have hm1 : ∀ u v, ((wr.setCell ⟨a, i, none⟩ u).setCell ⟨b, i, none⟩ v).cell? ⟨M, 2, none⟩ = some (.int .i64 n) := fun u v => by
          rw [World.cell?_setCell_other _ _ _ _ (fun e => hMb (by have := congrArg Addr.block e; simpa using this.symm)), World.cell?_setCell_other _ _ _ _ (fun e => hMa (by have := congrArg Addr.block e; simpa using this.symm))]; exact f2
        go_wp2
        go_region
        go_wp2
        go_end0
        go_light
        refine ⟨rfl, .inr ⟨⟨p0, hpl, unhide HX⟩, _, _, (((unhide HMt).store hMa hMb hab i (-1) 0).setLen hMa hMb (n - 1)).drew, unhide HDN⟩, ?_⟩
        exact (((((unhide HO).set (q := ⟨a, i, none⟩) (.inr (.inl rfl)) _).set (q := ⟨b, i, none⟩) (.inr (.inr rfl)) _).set (q := ⟨M, 2, none⟩) (.inl rfl) _)).drew
      · have t8 : (I' (pos c p0 t) != -1) = true := by simpa using hend
        have htl : t < L := by
          by_cases e : t = L
          · subst e
            have hce := (unhide HD).cell
            rw [(unhide HD).hL] at hce
            exact absurd hce hend
          · omega
        have HEN := hide hend
        have hnx := mask_nx (unhide HC) hpj
        rw [Tab.nx_pos hpl (by omega)] at hnx
        have hd2 := mask_dst (unhide HC) hpi hpj
        have hts : dst c (pos c p0 s) (pos c p0 t) = t - s := by
          rw [Tab.dst_sub hpl hpj (by rw [Tab.dst_pos hpl (by omega)]; omega), Tab.dst_pos hpl (by omega)]
        rw [hts] at hd2
        have hstay : dst c (homeN sh (I' (pos c p0 t))) (pos c p0 t) < t - s → DInv c (homeN sh) x I V p0 L (t + 1) s I' V' := fun h => (unhide HD).stay hpl (unhide HH) htl h
        have hmove : t - s ≤ dst c (homeN sh (I' (pos c p0 t))) (pos c p0 t) → DInv c (homeN sh) x I V p0 L (t + 1) t (upd I' (pos c p0 s) (I' (pos c p0 t))) (upd V' (pos c p0 s) (V' (pos c p0 t))) := fun h => (unhide HD).move hpl (unhide HH) htl hend h
        have hh2 : homeN sh (I' (pos c p0 t)) < c := unhide HH _
        have HST := hide hstay
        have HMV := hide hmove
        clear hend hts hstay hmove HD hdl
        generalize hqj : pos c p0 t = j at *
        generalize hqi : pos c p0 s = i at *
        have HQJ := hide hqj
        have HQI := hide hqi
        clear hqj hqi
        go_wp2_with fail
        refine (home_any M _ _ c c c n sh (I' j) _ (unhide HMt).m (unhide HC)).mono ?_
        rintro e w3 ⟨rfl, hw3⟩
        subst w3
        generalize homeN sh (I' j) = h2 at *
        have hd1 := mask_dst (unhide HC) hh2 hpj
        by_cases hge : t - s ≤ dst c h2 j
        · have HMV2 := hide (unhide HMV hge)
          clear HST HMV
          generalize dst c h2 j = dd at *
          have t10 : ((t - s : Nat) : Int) ≤ (dd : Int) := by omega
          have hb1 : ∀ v, (wr.setCell ⟨a, i, none⟩ v).cell? ⟨b, i, none⟩ = some (.int .i32 (V' i)) := fun v => by
            rw [World.cell?_setCell_other _ _ _ _ (fun e => hab (by have := congrArg Addr.block e; simpa using this))]; exact bi
          have hi1 : (i : Int) < (c : Int) := by omega
          have hj1 : (j : Int) < (c : Int) := by omega
          go_wp2
          go_region
          go_wp2
          go_roundg (L - (t + 1))
          case measure => go_light; omega
          case rel =>
            go_light
            refine ⟨t + 1, t, _, _, rfl, by rw [unhide HQJ], rfl, HMV2, ((unhide HMt).store hMa hMb hab i (I' j) (V' j)).drew, ?_⟩
            exact ((((unhide HO).set (q := ⟨a, i, none⟩) (.inr (.inl rfl)) _).set (q := ⟨b, i, none⟩) (.inr (.inr rfl)) _)).drew
        · have HST2 := hide (unhide HST (by omega))
          clear HST HMV
          generalize dst c h2 j = dd at *
          have t10 : ¬ ((t - s : Nat) : Int) ≤ (dd : Int) := by omega
          go_wp2
          go_roundg (L - (t + 1))
          case measure => go_light; omega
          case rel =>
            go_light
            exact ⟨t + 1, s, I', V', rfl, by rw [unhide HQI], rfl, HST2, HMt, HO⟩
end Go.Proofs.Qxb6003683a
