/- The plain mathematics of the backward shift: what Delete does to a table that probes linearly. No Go in it. -/
import Derived.Test.Qxb6003683aPlain
namespace Go.Proofs.Qxb6003683a.Tab

def upd (f : Nat → Int) (i : Nat) (v : Int) : Nat → Int := fun j => if j = i then v else f j
theorem upd_same (f : Nat → Int) (i : Nat) (v : Int) : upd f i v i = v := by simp [upd]
theorem upd_other {f : Nat → Int} {i j : Nat} {v : Int} (h : j ≠ i) : upd f i v j = f j := by simp [upd, h]

theorem cnt_upd {I : Nat → Int} {i : Nat} {v : Int} : ∀ {c : Nat}, i < c → cnt (upd I i v) c + (if I i = -1 then 0 else 1) = cnt I c + (if v = -1 then 0 else 1)
  | 0, h => absurd h (Nat.not_lt_zero _)
  | c + 1, h => by
    by_cases e : i = c
    · subst e
      have : cnt (upd I i v) i = cnt I i := cnt_congr (fun j hj => upd_other (by omega))
      unfold cnt
      rw [this, upd_same]
      omega
    · have ih := cnt_upd (I := I) (i := i) (v := v) (c := c) (by omega)
      unfold cnt
      rw [upd_other (f := I) (i := i) (j := c) (v := v) (by omega)]
      omega

theorem dst_sub {c h j d : Nat} (hh : h < c) (hj : j < c) (hd : d ≤ dst c h j) : dst c (pos c h d) j = dst c h j - d := by
  unfold dst pos at *
  split at hd <;> split <;> split <;> (try split) <;> omega
theorem pos_add {c h d e : Nat} (hh : h < c) (hde : d + e < c) : pos c (pos c h d) e = pos c h (d + e) := by
  unfold pos
  split <;> split <;> (try split) <;> omega
theorem dst_back {c t o p : Nat} (hp : p < c) (ht : t < c) (ho : o < t) : dst c (pos c p t) (pos c p o) = c - t + o := by
  unfold dst pos
  split <;> split <;> (try split) <;> omega

/-- The cells that hold y with v. -/
def Holds (c : Nat) (I V : Nat → Int) (y v : Int) : Prop := ∃ j, j < c ∧ I j = y ∧ V j = v

/-- WHAT HOLDS AT THE HEAD OF THE SHIFT's ROUND: t cells behind the first hole have been looked at up to (not with) t; the hole is s cells behind. -/
structure DInv (c : Nat) (H : Int → Nat) (x : Int) (I0 V0 : Nat → Int) (p0 L t s : Nat) (I V : Nat → Int) : Prop where
  st : s < t
  tL : t ≤ L
  Lc : L < c
  hL : I0 (pos c p0 L) = -1
  old : ∀ o, t ≤ o → o < c → I (pos c p0 o) = I0 (pos c p0 o)
  ok : ∀ j, j < c → upd I (pos c p0 s) (-1) j ≠ -1 → 0 ≤ upd I (pos c p0 s) (-1) j
  inj : ∀ i j, i < c → j < c → upd I (pos c p0 s) (-1) i ≠ -1 → upd I (pos c p0 s) (-1) i = upd I (pos c p0 s) (-1) j → i = j
  num : cnt (upd I (pos c p0 s) (-1)) c + 1 = cnt I0 c
  chain : ∀ j, j < c → upd I (pos c p0 s) (-1) j ≠ -1 → ∀ d, d < dst c (H (upd I (pos c p0 s) (-1) j)) j →
    upd I (pos c p0 s) (-1) (pos c (H (upd I (pos c p0 s) (-1) j)) d) ≠ -1 ∨ (pos c (H (upd I (pos c p0 s) (-1) j)) d = pos c p0 s ∧ t ≤ dst c p0 j)
  holds : ∀ y v, y ≠ -1 → (Holds c (upd I (pos c p0 s) (-1)) V y v ↔ Holds c I0 V0 y v ∧ y ≠ x)

section
variable {c : Nat} {H : Int → Nat} {n x : Int} {I0 V0 I V : Nat → Int} {p0 L t s : Nat}

theorem DInv.start (hW : WF c H n I0) (hp : p0 < c) (hx : I0 p0 = x) (hx1 : x ≠ -1) (hL0 : 1 ≤ L) (hLc : L < c) (hL : I0 (pos c p0 L) = -1) : DInv c H x I0 V0 p0 L 1 0 I0 V0 := by
  have e0 : pos c p0 0 = p0 := pos_zero hp
  refine ⟨by omega, hL0, hLc, hL, fun _ _ _ => rfl, ?_, ?_, ?_, ?_, ?_⟩
  · intro j hj hne
    rw [e0] at hne ⊢
    by_cases e : j = p0
    · subst e; rw [upd_same] at hne; exact absurd rfl hne
    · rw [upd_other e] at hne ⊢; exact hW.ok j hj hne
  · intro i j hi hj hne e
    rw [e0] at hne e
    by_cases ei : i = p0
    · subst ei; rw [upd_same] at hne; exact absurd rfl hne
    · rw [upd_other ei] at hne e
      by_cases ej : j = p0
      · subst ej; rw [upd_same] at e; exact absurd e hne
      · rw [upd_other ej] at e; exact hW.inj hi hj hne e
  · have := cnt_upd (I := I0) (i := p0) (v := -1) hp
    rw [e0]
    rw [if_neg (by rw [hx]; exact hx1), if_pos rfl] at this
    omega
  · intro j hj hne d hd
    rw [e0] at hne hd ⊢
    by_cases e : j = p0
    · subst e; rw [upd_same] at hne; exact absurd rfl hne
    · rw [upd_other e] at hne hd ⊢
      have hc := hW.chain j hj hne d hd
      by_cases ep : pos c (H (I0 j)) d = p0
      · refine .inr ⟨ep, ?_⟩
        unfold dst; split <;> omega
      · exact .inl (by rw [upd_other ep]; exact hc)
  · intro y v hy
    rw [e0]
    constructor
    · rintro ⟨j, hj, e1, e2⟩
      by_cases e : j = p0
      · subst e; rw [upd_same] at e1; exact absurd e1.symm hy
      · rw [upd_other e] at e1
        refine ⟨⟨j, hj, e1, e2⟩, fun ey => e ?_⟩
        exact hW.inj hj hp (by rw [e1]; exact hy) (by rw [e1, hx]; exact ey)
    · rintro ⟨⟨j, hj, e1, e2⟩, hne⟩
      refine ⟨j, hj, ?_, e2⟩
      rw [upd_other (fun e => hne (by rw [← e1, e, hx]))]
      exact e1

/-- The cell that is looked at. -/
theorem DInv.cell (h : DInv c H x I0 V0 p0 L t s I V) : I (pos c p0 t) = I0 (pos c p0 t) := h.old t (Nat.le_refl _) (by have := h.tL; have := h.Lc; omega)

/-- The cell that is looked at stays where it is. -/
theorem DInv.stay (h : DInv c H x I0 V0 p0 L t s I V) (hp : p0 < c) (hH : ∀ y, H y < c) (htL : t < L) (hd : dst c (H (I (pos c p0 t))) (pos c p0 t) < t - s) : DInv c H x I0 V0 p0 L (t + 1) s I V := by
  have hst := h.st
  have hLc := h.Lc
  refine ⟨by omega, by omega, hLc, h.hL, fun o h1 h2 => h.old o (by omega) h2, h.ok, h.inj, h.num, ?_, h.holds⟩
  intro j hj hne d hdd
  rcases h.chain j hj hne d hdd with h1 | ⟨h1, h2⟩
  · exact .inl h1
  · refine .inr ⟨h1, ?_⟩
    by_cases e : dst c p0 j = t
    · exfalso
      have ej : j = pos c p0 t := by rw [← e, pos_dst hp hj]
      have hpt : pos c p0 t < c := pos_lt hp (by omega)
      have hpne : pos c p0 t ≠ pos c p0 s := fun e => by have := pos_inj hp (by omega) (by omega) e; omega
      have hT : upd I (pos c p0 s) (-1) j = I (pos c p0 t) := by rw [ej, upd_other hpne]
      rw [hT] at h1 hdd
      rw [ej] at hdd
      have a1 := dst_sub (hH (I (pos c p0 t))) hpt (Nat.le_of_lt hdd)
      rw [h1] at a1
      have a2 := dst_sub (j := pos c p0 t) (d := s) hp hpt (by rw [dst_pos hp (by omega)]; omega)
      rw [dst_pos hp (by omega)] at a2
      omega
    · omega

/-- The cell that is looked at goes into the hole. -/
theorem DInv.move (h : DInv c H x I0 V0 p0 L t s I V) (hp : p0 < c) (hH : ∀ y, H y < c) (htL : t < L) (hne0 : I (pos c p0 t) ≠ -1) (hd : t - s ≤ dst c (H (I (pos c p0 t))) (pos c p0 t)) :
    DInv c H x I0 V0 p0 L (t + 1) t (upd I (pos c p0 s) (I (pos c p0 t))) (upd V (pos c p0 s) (V (pos c p0 t))) := by
  have hst := h.st
  have hLc := h.Lc
  have hij : pos c p0 t ≠ pos c p0 s := fun e => by have := pos_inj hp (by omega) (by omega) e; omega
  have hLi : pos c p0 L ≠ pos c p0 s := fun e => by have := pos_inj hp (by omega) (by omega) e; omega
  have hLj : pos c p0 L ≠ pos c p0 t := fun e => by have := pos_inj hp (by omega) (by omega) e; omega
  have hi : pos c p0 s < c := pos_lt hp (by omega)
  have hj : pos c p0 t < c := pos_lt hp (by omega)
  have hofi : dst c p0 (pos c p0 s) = s := dst_pos hp (by omega)
  have hofj : dst c p0 (pos c p0 t) = t := dst_pos hp (by omega)
  have hij2 : dst c (pos c p0 s) (pos c p0 t) = t - s := by rw [dst_sub hp hj (by rw [hofj]; omega), hofj]
  have hback : ∀ o, o < t → dst c (pos c p0 t) (pos c p0 o) = c - t + o := fun o ho => dst_back hp (by omega) ho
  have hLadd : pos c (pos c p0 t) (L - t) = pos c p0 L := by rw [pos_add hp (by omega)]; congr 1; omega
  have hTL : upd I (pos c p0 s) (-1) (pos c p0 L) = -1 := by rw [upd_other hLi, h.old L (by omega) hLc]; exact h.hL
  have hold := h.old
  have hok := h.ok
  have hinj := h.inj
  have hnum := h.num
  have hchain := h.chain
  have hholds := h.holds
  have hoff : ∀ q, q < c → pos c p0 (dst c p0 q) = q := fun q hq => pos_dst hp hq
  have hL0 := h.hL
  clear h
  generalize hgi : pos c p0 s = i at *
  generalize hgj : pos c p0 t = j at *
  -- the two tables without their holes
  have hT'i : upd (upd I i (I j)) j (-1) i = I j := by rw [upd_other (fun e => hij e.symm), upd_same]
  have hT'j : upd (upd I i (I j)) j (-1) j = -1 := upd_same _ _ _
  have hT'o : ∀ q, q ≠ i → q ≠ j → upd (upd I i (I j)) j (-1) q = upd I i (-1) q := fun q h1 h2 => by rw [upd_other h2, upd_other h1, upd_other h1]
  have hTj : upd I i (-1) j = I j := upd_other hij
  have hTi : upd I i (-1) i = -1 := upd_same _ _ _
  refine ⟨by omega, by omega, hLc, hL0, ?_, ?_, ?_, ?_, ?_, ?_⟩
  · intro o h1 h2
    rw [upd_other (fun e => ?_)]
    · exact hold o (by omega) h2
    · rw [← hgi] at e
      have := pos_inj hp h2 (by omega) e
      omega
  · intro q hq hne
    rw [hgj] at hne ⊢
    by_cases e1 : q = j
    · subst e1; rw [hT'j] at hne; exact absurd rfl hne
    · by_cases e2 : q = i
      · subst e2; rw [hT'i]
        have := hok j hj (by rw [hTj]; exact hne0)
        rwa [hTj] at this
      · rw [hT'o q e2 e1] at hne ⊢; exact hok q hq hne
  · intro q r hq hr hne e
    rw [hgj] at hne e
    by_cases q1 : q = j
    · subst q1; rw [hT'j] at hne; exact absurd rfl hne
    by_cases r1 : r = j
    · subst r1; rw [hT'j] at e; exact absurd e hne
    by_cases q2 : q = i
    · by_cases r2 : r = i
      · rw [q2, r2]
      · subst q2
        rw [hT'i, hT'o r r2 r1] at e
        have := hinj j r hj hr (by rw [hTj]; exact hne0) (by rw [hTj]; exact e)
        exact absurd this.symm r1
    · by_cases r2 : r = i
      · subst r2
        rw [hT'i, hT'o q q2 q1] at e
        have := hinj j q hj hq (by rw [hTj]; exact hne0) (by rw [hTj]; exact e.symm)
        exact absurd this.symm q1
      · rw [hT'o q q2 q1] at hne e
        rw [hT'o r r2 r1] at e
        exact hinj q r hq hr hne e
  · rw [hgj]
    have a1 := cnt_upd (I := upd I i (I j)) (i := j) (v := -1) hj
    rw [upd_other hij, if_neg hne0, if_pos rfl] at a1
    have a2 := cnt_upd (I := I) (i := i) (v := I j) hi
    have a3 := cnt_upd (I := I) (i := i) (v := -1) hi
    rw [if_neg hne0] at a2
    rw [if_pos rfl] at a3
    omega
  · intro q hq hne d hdd
    rw [hgj] at hne hdd ⊢
    by_cases q1 : q = j
    · subst q1; rw [hT'j] at hne; exact absurd rfl hne
    by_cases q2 : q = i
    · subst q2
      rw [hT'i] at hdd ⊢
      left
      have hh := hH (I j)
      -- the way from y's home to the hole is the beginning of its way to where it lay
      have e1 : pos c (H (I j)) (dst c (H (I j)) j - (t - s)) = q := by
        have a1 : dst c q j = t - s := hij2
        have a2 := dst_sub hh hj (d := dst c (H (I j)) j - (t - s)) (by omega)
        have a3 : pos c (H (I j)) (dst c (H (I j)) j - (t - s)) < c := pos_lt hh (by have := dst_lt hh hj; omega)
        have a4 : dst c (pos c (H (I j)) (dst c (H (I j)) j - (t - s))) j = t - s := by omega
        revert a4 a1 a3
        generalize pos c (H (I j)) (dst c (H (I j)) j - (t - s)) = r
        intro a1 a3 a4
        unfold dst at a1 a4
        split at a1 <;> split at a4 <;> omega
      have hdl := dst_lt hh hj
      have e2 : dst c (H (I j)) q = dst c (H (I j)) j - (t - s) := by rw [← e1, dst_pos hh (by omega)]
      have hdj : d < dst c (H (I j)) j := by omega
      have n1 : pos c (H (I j)) d ≠ q := fun e => by
        rw [← e1] at e
        have := pos_inj hh (by omega) (by omega) e
        omega
      have n2 : pos c (H (I j)) d ≠ j := fun e => by
        have e' : pos c (H (I j)) d = pos c (H (I j)) (dst c (H (I j)) j) := by rw [e, pos_dst hh hj]
        have := pos_inj hh (by omega) (by omega) e'
        omega
      have hc := hchain j hj (by rw [hTj]; exact hne0) d (by rw [hTj]; exact hdj)
      rw [hTj] at hc
      rw [hT'o _ n1 n2]
      rcases hc with hc | ⟨hc, _⟩
      · exact hc
      · exact absurd hc n1
    · rw [hT'o q q2 q1] at hne hdd ⊢
      have hh := hH (upd I i (-1) q)
      rcases hchain q hq hne d hdd with hc | ⟨hc, _⟩
      · by_cases p1 : pos c (H (upd I i (-1) q)) d = j
        · right
          refine ⟨p1, ?_⟩
          by_cases hlt : t < dst c p0 q
          · omega
          · exfalso
            have hoq : dst c p0 q < t := by
              by_cases e : dst c p0 q = t
              · have := hoff q hq
                rw [e, hgj] at this
                exact absurd this.symm q1
              · omega
            have a1 := dst_sub hh hq (Nat.le_of_lt hdd)
            rw [p1] at a1
            have a2 := hback (dst c p0 q) hoq
            rw [hoff q hq] at a2
            -- the way goes on over the cell L
            have hdq := dst_lt hh hq
            have a3 : pos c (H (upd I i (-1) q)) (d + (L - t)) = pos c p0 L := by
              rw [← pos_add hh (by omega), p1]; exact hLadd
            rcases hchain q hq hne (d + (L - t)) (by omega) with hc' | ⟨hc', _⟩
            · rw [a3] at hc'; exact hc' hTL
            · rw [a3] at hc'; exact hLi hc'
        · left
          by_cases p2 : pos c (H (upd I i (-1) q)) d = i
          · rw [p2, hT'i]; exact hne0
          · rw [hT'o _ p2 p1]; exact hc
      · left
        rw [hc, hT'i]; exact hne0
  · intro y v hy
    rw [← hholds y v hy, hgj]
    constructor
    · rintro ⟨q, hq, e1, e2⟩
      by_cases q1 : q = j
      · subst q1; rw [hT'j] at e1; exact absurd e1.symm hy
      by_cases q2 : q = i
      · subst q2
        rw [hT'i] at e1
        rw [upd_same] at e2
        exact ⟨j, hj, by rw [hTj]; exact e1, e2⟩
      · rw [hT'o q q2 q1] at e1
        rw [upd_other q2] at e2
        exact ⟨q, hq, e1, e2⟩
    · rintro ⟨q, hq, e1, e2⟩
      by_cases q1 : q = j
      · subst q1
        rw [hTj] at e1
        exact ⟨i, hi, by rw [hT'i]; exact e1, by rw [upd_same]; exact e2⟩
      by_cases q2 : q = i
      · subst q2; rw [hTi] at e1; exact absurd e1.symm hy
      · exact ⟨q, hq, by rw [hT'o q q2 q1]; exact e1, by rw [upd_other q2]; exact e2⟩

/-- The shift has come to the empty cell: the table without its hole is well formed, and holds what was held, but for x. -/
theorem DInv.done (h : DInv c H x I0 V0 p0 L t s I V) (hp : p0 < c) (hH : ∀ y, H y < c) (hW : WF c H n I0) (htL : t = L) :
    WF c H (n - 1) (upd I (pos c p0 s) (-1)) ∧ ∀ y v, y ≠ -1 → (Holds c (upd I (pos c p0 s) (-1)) (upd V (pos c p0 s) 0) y v ↔ Holds c I0 V0 y v ∧ y ≠ x) := by
  subst htL
  have hst := h.st
  have hLc := h.Lc
  have hLi : pos c p0 t ≠ pos c p0 s := fun e => by have := pos_inj hp (by omega) (by omega) e; omega
  have hTL : upd I (pos c p0 s) (-1) (pos c p0 t) = -1 := by rw [upd_other hLi, h.cell]; exact h.hL
  refine ⟨⟨h.ok, fun j hj hne i hji hi e => ?_, ?_, ?_, ?_⟩, ?_⟩
  · have := h.inj j i hj hi hne e.symm
    omega
  · have := h.num
    have := hW.num
    omega
  · have := h.num
    have := hW.half
    omega
  · intro q hq hne d hdd
    rcases h.chain q hq hne d hdd with hc | ⟨hc, ho⟩
    · exact hc
    · exfalso
      have hh := hH (upd I (pos c p0 s) (-1) q)
      have hoq : t < dst c p0 q := by
        by_cases e : dst c p0 q = t
        · have := pos_dst hp hq
          rw [e] at this
          rw [← this] at hne
          exact absurd hTL hne
        · omega
      have hdq := dst_lt hh hq
      have hpq := dst_lt hp hq
      have a1 := dst_sub hh hq (Nat.le_of_lt hdd)
      rw [hc] at a1
      have a2 := dst_sub hp hq (d := s) (by omega)
      have a3 : pos c (H (upd I (pos c p0 s) (-1) q)) (d + (t - s)) = pos c p0 t := by
        rw [← pos_add hh (by omega), hc, pos_add hp (by omega)]; congr 1; omega
      rcases h.chain q hq hne (d + (t - s)) (by omega) with hc' | ⟨hc', _⟩
      · rw [a3] at hc'; exact hc' hTL
      · rw [a3] at hc'; exact hLi hc'
  · intro y v hy
    rw [← h.holds y v hy]
    constructor
    · rintro ⟨q, hq, e1, e2⟩
      have q2 : q ≠ pos c p0 s := fun e => by rw [e, upd_same] at e1; exact hy e1.symm
      exact ⟨q, hq, e1, by rw [upd_other q2] at e2; exact e2⟩
    · rintro ⟨q, hq, e1, e2⟩
      have q2 : q ≠ pos c p0 s := fun e => by rw [e, upd_same] at e1; exact hy e1.symm
      exact ⟨q, hq, e1, by rw [upd_other q2]; exact e2⟩
end
end Go.Proofs.Qxb6003683a.Tab
