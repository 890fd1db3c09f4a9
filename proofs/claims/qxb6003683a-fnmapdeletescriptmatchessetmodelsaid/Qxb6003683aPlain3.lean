/- The plain mathematics of the script: the held cells as a list; flags that say which of them are left. No Go in it. -/
import Derived.Test.Qxb6003683aPlain2
namespace Go.Proofs.Qxb6003683a.Tab

/-- The held cells among the first k. -/
def held (I : Nat → Int) : Nat → List Nat
  | 0 => []
  | k + 1 => if I k = -1 then held I k else held I k ++ [k]

theorem held_hit {I : Nat → Int} {k : Nat} (h : I k ≠ -1) : held I (k + 1) = held I k ++ [k] := by rw [held, if_neg h]
theorem held_miss {I : Nat → Int} {k : Nat} (h : I k = -1) : held I (k + 1) = held I k := by rw [held, if_pos h]
theorem held_len (I : Nat → Int) : ∀ k, (held I k).length = cnt I k
  | 0 => rfl
  | k + 1 => by
    by_cases h : I k = -1
    · rw [held_miss h, held_len I k, cnt, if_pos h]; rfl
    · rw [held_hit h, List.length_append, held_len I k, cnt, if_neg h]; rfl
theorem mem_held {I : Nat → Int} : ∀ {k j : Nat}, j ∈ held I k ↔ j < k ∧ I j ≠ -1
  | 0, j => by simp [held]
  | k + 1, j => by
    by_cases h : I k = -1
    · rw [held_miss h, mem_held]
      refine ⟨fun ⟨a, b⟩ => ⟨by omega, b⟩, fun ⟨a, b⟩ => ⟨?_, b⟩⟩
      by_cases e : j = k
      · subst e; exact absurd h b
      · omega
    · rw [held_hit h, List.mem_append, mem_held, List.mem_singleton]
      constructor
      · rintro (⟨a, b⟩ | rfl)
        · exact ⟨by omega, b⟩
        · exact ⟨by omega, h⟩
      · rintro ⟨a, b⟩
        by_cases e : j = k
        · exact .inr e
        · exact .inl ⟨by omega, b⟩
theorem held_lt {I : Nat → Int} : ∀ {k i : Nat} (h : i < (held I k).length), (held I k)[i] < k := by
  intro k i h
  exact (mem_held.1 (List.getElem_mem h)).1
theorem held_inj {I : Nat → Int} : ∀ {k i i' : Nat} (h : i < (held I k).length) (h' : i' < (held I k).length), (held I k)[i] = (held I k)[i'] → i = i'
  | 0, i, _, h, _, _ => absurd h (by simp [held])
  | k + 1, i, i', h, h', e => by
    by_cases hk : I k = -1
    · have e0 : held I (k + 1) = held I k := held_miss hk
      revert h h' e
      rw [e0]
      intro h h' e
      exact held_inj h h' e
    · have e0 : held I (k + 1) = held I k ++ [k] := held_hit hk
      revert h h' e
      rw [e0]
      intro h h' e
      rw [List.length_append, List.length_singleton] at h h'
      rw [List.getElem_append, List.getElem_append] at e
      split at e
      · rename_i h1
        split at e
        · rename_i h2
          exact held_inj h1 h2 e
        · have := held_lt h1
          simp at e
          omega
      · split at e
        · rename_i h2
          have := held_lt h2
          simp at e
          omega
        · omega

/-- The i-th held cell's id, and its value. -/
def key (I : Nat → Int) (c i : Nat) : Int := I ((held I c).getD i 0)
def val (I V : Nat → Int) (c i : Nat) : Int := V ((held I c).getD i 0)

theorem getD_held {I : Nat → Int} {c i : Nat} (h : i < (held I c).length) : (held I c).getD i 0 = (held I c)[i] := by simp [List.getD, h]

/-- THE MODEL: what the table holds is what the flags say is left. -/
def Model (c : Nat) (I0 V0 : Nat → Int) (al : Nat → Bool) (I V : Nat → Int) : Prop :=
  ∀ y v, y ≠ -1 → (Holds c I V y v ↔ ∃ i, i < cnt I0 c ∧ al i = true ∧ key I0 c i = y ∧ val I0 V0 c i = v)

section
variable {c : Nat} {H : Int → Nat} {n n' d : Int} {I0 V0 I V I' V' : Nat → Int} {al al' : Nat → Bool}

theorem key_ne {i : Nat} (hi : i < cnt I0 c) : key I0 c i ≠ -1 := by
  have h : i < (held I0 c).length := by rw [held_len]; exact hi
  unfold key
  rw [getD_held h]
  exact (mem_held.1 (List.getElem_mem h)).2

theorem key_inj (hW : WF c H n I0) {i i' : Nat} (hi : i < cnt I0 c) (hi' : i' < cnt I0 c) (e : key I0 c i = key I0 c i') : i = i' := by
  have h : i < (held I0 c).length := by rw [held_len]; exact hi
  have h' : i' < (held I0 c).length := by rw [held_len]; exact hi'
  have hn := key_ne hi
  unfold key at e hn
  rw [getD_held h] at e hn
  rw [getD_held h'] at e
  exact held_inj h h' (hW.inj (held_lt h) (held_lt h') hn e)

theorem Model.start : Model c I0 V0 (fun _ => true) I0 V0 := by
  intro y v hy
  constructor
  · rintro ⟨j, hj, e1, e2⟩
    have hm : j ∈ held I0 c := mem_held.2 ⟨hj, by rw [e1]; exact hy⟩
    obtain ⟨i, hi, hij⟩ := List.getElem_of_mem hm
    refine ⟨i, by rw [← held_len]; exact hi, rfl, ?_, ?_⟩
    · unfold key; rw [getD_held hi, hij]; exact e1
    · unfold val; rw [getD_held hi, hij]; exact e2
  · rintro ⟨i, hi, _, e1, e2⟩
    have h : i < (held I0 c).length := by rw [held_len]; exact hi
    unfold key at e1
    unfold val at e2
    rw [getD_held h] at e1 e2
    exact ⟨_, held_lt h, e1, e2⟩

/-- A delete of d, in the table and among the flags. -/
theorem Model.del (hm : Model c I0 V0 al I V) (hh : ∀ y v, y ≠ -1 → (Holds c I' V' y v ↔ Holds c I V y v ∧ y ≠ d)) (ha : ∀ i, i < cnt I0 c → al' i = (al i && decide (key I0 c i ≠ d))) : Model c I0 V0 al' I' V' := by
  intro y v hy
  rw [hh y v hy, hm y v hy]
  constructor
  · rintro ⟨⟨i, hi, e0, e1, e2⟩, hne⟩
    exact ⟨i, hi, by rw [ha i hi, e0, e1]; simp [hne], e1, e2⟩
  · rintro ⟨i, hi, e0, e1, e2⟩
    rw [ha i hi] at e0
    simp at e0
    exact ⟨⟨i, hi, e0.1, e1, e2⟩, by rw [← e1]; exact e0.2⟩

/-- A key that is left: where it lies. -/
theorem Model.alive (hm : Model c I0 V0 al I V) {i : Nat} (hi : i < cnt I0 c) (ha : al i = true) : ∃ j, j < c ∧ I j = key I0 c i ∧ V j = val I0 V0 c i :=
  (hm _ _ (key_ne hi)).2 ⟨i, hi, ha, rfl, rfl⟩
/-- A key that is gone. -/
theorem Model.dead (hm : Model c I0 V0 al I V) (hW : WF c H n I0) {i : Nat} (hi : i < cnt I0 c) (ha : al i = false) : ∀ j, j < c → I j ≠ key I0 c i := by
  intro j hj e
  obtain ⟨i', hi', h1, h2, _⟩ := (hm (key I0 c i) (V j) (key_ne hi)).1 ⟨j, hj, e, rfl⟩
  have := key_inj hW hi' hi h2
  subst this
  rw [ha] at h1
  cases h1

/-- How often the flags met d among the first i. -/
def Hits (I0 : Nat → Int) (c : Nat) (al : Nat → Bool) (d : Int) (i : Nat) (q : Int) : Prop :=
  (q = 0 ∧ ∀ j, j < i → ¬ (al j = true ∧ key I0 c j = d)) ∨ (q = 1 ∧ ∃ j, j < i ∧ al j = true ∧ key I0 c j = d)

theorem Hits.start : Hits I0 c al d 0 0 := .inl ⟨rfl, fun _ h => absurd h (Nat.not_lt_zero _)⟩
theorem Hits.miss {i : Nat} {q : Int} (h : Hits I0 c al d i q) (hn : ¬ (al i = true ∧ key I0 c i = d)) : Hits I0 c al d (i + 1) q := by
  rcases h with ⟨h1, h2⟩ | ⟨h1, j, hj, h2⟩
  · refine .inl ⟨h1, fun j hj => ?_⟩
    by_cases e : j = i
    · subst e; exact hn
    · exact h2 j (by omega)
  · exact .inr ⟨h1, j, by omega, h2⟩
theorem Hits.hit {i : Nat} {q : Int} (h : Hits I0 c al d i q) (hW : WF c H n I0) (hi : i < cnt I0 c) (h1 : al i = true) (h2 : key I0 c i = d) : q = 0 ∧ Hits I0 c al d (i + 1) 1 := by
  refine ⟨?_, .inr ⟨rfl, i, by omega, h1, h2⟩⟩
  rcases h with ⟨h3, _⟩ | ⟨_, j, hj, _, h4⟩
  · exact h3
  · have := key_inj hW (by omega) hi (h4.trans h2.symm)
    omega
/-- All flags asked: d was met just if the table held it. -/
theorem Hits.iff {q : Int} (h : Hits I0 c al d (cnt I0 c) q) (hm : Model c I0 V0 al I V) (hd : d ≠ -1) : (q = 0 ∧ ∀ j, j < c → I j ≠ d) ∨ (q = 1 ∧ ∃ j, j < c ∧ I j = d) := by
  rcases h with ⟨h1, h2⟩ | ⟨h1, i, hi, h2, h3⟩
  · refine .inl ⟨h1, fun j hj e => ?_⟩
    obtain ⟨i, hi, a1, a2, _⟩ := (hm d (V j) hd).1 ⟨j, hj, e, rfl⟩
    exact h2 i hi ⟨a1, a2⟩
  · obtain ⟨j, hj, e, _⟩ := hm.alive hi h2
    exact .inr ⟨h1, j, hj, by rw [e, h3]⟩
end
end Go.Proofs.Qxb6003683a.Tab
