/- The plain mathematics of a table that probes linearly. No Go in it. -/
namespace Go.Proofs.Qxb6003683a.Tab

/-- The next cell. -/
def nx (c i : Nat) : Nat := if i + 1 < c then i + 1 else 0
/-- The cell d steps behind h. -/
def pos (c h d : Nat) : Nat := if h + d < c then h + d else h + d - c
/-- How many steps from h to j. -/
def dst (c h j : Nat) : Nat := if h ≤ j then j - h else j + c - h

theorem nx_lt {c i : Nat} (hc : 0 < c) : nx c i < c := by unfold nx; split <;> omega
theorem pos_lt {c h d : Nat} (hh : h < c) (hd : d ≤ c) : pos c h d < c := by unfold pos; split <;> omega
theorem dst_lt {c h j : Nat} (hh : h < c) (hj : j < c) : dst c h j < c := by unfold dst; split <;> omega
theorem pos_zero {c h : Nat} (hh : h < c) : pos c h 0 = h := by unfold pos; split <;> omega
theorem nx_pos {c h d : Nat} (hh : h < c) (hd : d < c) : nx c (pos c h d) = pos c h (d + 1) := by
  unfold nx pos; split <;> split <;> split <;> omega
theorem pos_dst {c h j : Nat} (hh : h < c) (hj : j < c) : pos c h (dst c h j) = j := by
  unfold pos dst; split <;> split <;> omega
theorem dst_pos {c h d : Nat} (hh : h < c) (hd : d < c) : dst c h (pos c h d) = d := by
  unfold pos dst; split <;> split <;> omega
theorem pos_inj {c h d d' : Nat} (hh : h < c) (hd : d < c) (hd' : d' < c) (e : pos c h d = pos c h d') : d = d' := by
  rw [← dst_pos hh hd, e, dst_pos hh hd']

/-- How many of the first k cells are held. -/
def cnt (I : Nat → Int) : Nat → Nat
  | 0 => 0
  | k + 1 => cnt I k + (if I k = -1 then 0 else 1)

theorem cnt_le (I : Nat → Int) : ∀ k, cnt I k ≤ k
  | 0 => Nat.le_refl _
  | k + 1 => by
    have := cnt_le I k
    unfold cnt; split <;> omega

theorem cnt_full (I : Nat → Int) : ∀ k, (∀ j, j < k → I j ≠ -1) → cnt I k = k
  | 0, _ => rfl
  | k + 1, h => by
    unfold cnt
    rw [cnt_full I k (fun j hj => h j (by omega)), if_neg (h k (by omega))]

theorem hole_of {I : Nat → Int} {c : Nat} (h : cnt I c < c) : ∃ e, e < c ∧ I e = -1 := by
  refine Classical.byContradiction fun hn => ?_
  have := cnt_full I c (fun j hj e => hn ⟨j, hj, e⟩)
  omega

theorem cnt_congr {I J : Nat → Int} : ∀ {k : Nat}, (∀ j, j < k → I j = J j) → cnt I k = cnt J k
  | 0, _ => rfl
  | k + 1, h => by
    unfold cnt
    rw [cnt_congr (k := k) (fun j hj => h j (by omega)), h k (by omega)]

theorem cnt_zero {I : Nat → Int} : ∀ {k : Nat}, cnt I k = 0 → ∀ j, j < k → I j = -1
  | 0, _, j, hj => absurd hj (Nat.not_lt_zero _)
  | k + 1, h, j, hj => by
    unfold cnt at h
    by_cases e : j = k
    · subst e
      by_cases e2 : I j = -1
      · exact e2
      · rw [if_neg e2] at h; omega
    · exact cnt_zero (k := k) (by omega) j (by omega)

/-- The invariant. -/
structure WF (c : Nat) (H : Int → Nat) (n : Int) (I : Nat → Int) : Prop where
  ok : ∀ j, j < c → I j ≠ -1 → 0 ≤ I j
  dist : ∀ j, j < c → I j ≠ -1 → ∀ i, j < i → i < c → I i ≠ I j
  num : (cnt I c : Int) = n
  half : 2 * cnt I c ≤ c
  chain : ∀ j, j < c → I j ≠ -1 → ∀ d, d < dst c (H (I j)) j → I (pos c (H (I j)) d) ≠ -1

theorem WF.inj {c : Nat} {H : Int → Nat} {n : Int} {I : Nat → Int} (h : WF c H n I) {i j : Nat} (hi : i < c) (hj : j < c) (he : I i ≠ -1) (e : I i = I j) : i = j := by
  rcases Nat.lt_trichotomy i j with h1 | h1 | h1
  · exact absurd e.symm (h.dist i hi he j h1 hj)
  · exact h1
  · exact absurd e (h.dist j hj (by rw [← e]; exact he) i h1 hi)

/-- A probe that has come to an empty cell without meeting x: x is nowhere. -/
theorem absent {c : Nat} {H : Int → Nat} {n : Int} {I : Nat → Int} (h : WF c H n I) (hH : ∀ x, H x < c) {x : Int} {d : Nat} (he : I (pos c (H x) d) = -1)
    (hs : ∀ d', d' < d → I (pos c (H x) d') ≠ x) : ∀ j, j < c → I j ≠ -1 → I j ≠ x := by
  intro j hj hne e
  have hh := hH x
  have hdl := dst_lt hh hj
  have hpd := pos_dst hh hj
  have hch := h.chain j hj hne
  rw [e] at hch
  by_cases h1 : d < dst c (H x) j
  · exact hch d h1 he
  · by_cases h2 : d = dst c (H x) j
    · rw [h2, hpd] at he
      exact hne he
    · exact hs (dst c (H x) j) (by omega) (by rw [hpd]; exact e)

end Go.Proofs.Qxb6003683a.Tab
