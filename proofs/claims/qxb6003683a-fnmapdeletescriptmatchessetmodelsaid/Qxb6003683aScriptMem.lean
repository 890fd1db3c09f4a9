import Derived.Test.Qxb6003683aSame
import Derived.Test.Qxb6003683aPlain3
namespace Go.Proofs.Qxb6003683a
open Go.RowKit
open Tab (nx pos dst cnt WF upd Holds DInv held key val Model Hits)

theorem info4 : (Try.prog.info? 4).map (fun i => (i.zero, i.size, i.bytes)) = some (some (.bool false), 1, 1) := by kernel_rfl

/-- A slice of the call's own that is only read from here on. -/
def Rd (bad : Nat → Prop) (w : World) (ao : Option Addr) (t n : Nat) (f : Nat → Value) : Prop :=
  0 < n → ∃ g N F, ao = some ⟨g, 0, none⟩ ∧ ¬ bad g ∧ n ≤ N ∧ w.rowIs g t N F ∧ ∀ i, i < n → F i = f i

section
variable {bad : Nat → Prop} {w w' : World} {ao : Option Addr} {t n : Nat} {f : Nat → Value}
theorem Rd.cell (h : Rd bad w ao t n f) {i : Nat} (hi : i < n) : ∃ g, ao = some ⟨g, 0, none⟩ ∧ w.cell? ⟨g, i, none⟩ = some (f i) := by
  obtain ⟨g, N, F, e1, _, hN, hr, hF⟩ := h (by omega)
  exact ⟨g, e1, by rw [hr.cell (by omega), hF i hi]⟩
theorem Rd.keep (h : Rd bad w ao t n f) (hk : ∀ k, ¬ bad k → k < w.heap.size → w'.heap[k]? = w.heap[k]?) : Rd bad w' ao t n f := by
  intro hn
  obtain ⟨g, N, F, e1, hb, hN, hr, hF⟩ := h hn
  exact ⟨g, N, F, e1, hb, hN, hr.of_block (hk g hb hr.lt), hF⟩
theorem Rd.of_row {g : Nat} (hao : 0 < n → ao = some ⟨g, 0, none⟩ ∧ w.rowIs g t n f) (hb : 0 < n → ¬ bad g) : Rd bad w ao t n f := fun hn =>
  ⟨g, n, f, (hao hn).1, hb hn, Nat.le_refl _, (hao hn).2, fun _ _ => rfl⟩
end

theorem Rd.of_own {bad : Nat → Prop} {w : World} {base e n : Nat} {v : Value} {xs : List Value} {f : Nat → Value} (h : w.ownsRow base e 1 v n xs) (hb : ∀ g, base ≤ g → g < w.heap.size → ¬ bad g) (hx : ∀ i, i < n → xs[i]? = some (f i)) :
    ∃ ao cap, v = .slice ao n cap ∧ Rd bad w ao e n f := by
  rcases h.2 with ⟨rfl, rfl⟩ | ⟨g, cap, cur, rfl, hg, hh, hnc, _, hcs, ht⟩
  · exact ⟨none, 0, rfl, fun hn => absurd hn (Nat.lt_irrefl _)⟩
  · refine ⟨some ⟨g, 0, none⟩, cap, rfl, fun _ => ⟨g, cur.size, fun i => (cur[i]?).getD (.bool false), rfl, hb g hg (Array.getElem?_eq_some_iff.1 hh).1, by omega, ⟨cur, hh, rfl, fun i hi => by simp [hi]⟩, fun i hi => ?_⟩⟩
    have := hx i hi
    rw [← ht, List.getElem?_take, if_pos (by omega)] at this
    have e2 : cur[i]? = some (f i) := by simpa using this
    show (cur[i]?).getD (.bool false) = f i
    rw [e2]; rfl

theorem own_diff {w : World} {base base' e e' n n' : Nat} {v v' : Value} {xs xs' : List Value} (h : w.ownsRow base e 1 v n xs) (h' : w.ownsRow base' e' 1 v' n' xs') (hne : e ≠ e') : v.ownBlock = none ∨ v.ownBlock ≠ v'.ownBlock := by
  rcases h.2 with ⟨rfl, _⟩ | ⟨g, cap, cur, rfl, _, hh, _⟩
  · exact .inl rfl
  · rcases h'.2 with ⟨rfl, _⟩ | ⟨g', cap', cur', rfl, _, hh', _⟩
    · exact .inr (by simp [Value.ownBlock])
    · refine .inr (fun eg => ?_)
      simp [Value.ownBlock] at eg
      subst eg
      rw [hh] at hh'
      simp at hh'
      exact hne hh'.2

/-- WHAT HOLDS AT THE HEAD OF THE LOOP THAT GATHERS THE KEYS. -/
structure Gat (W wr : World) (B k : Nat) (I V : Nat → Int) (u v : Value) : Prop where
  since : W.Since W.heap.size wr
  keys : wr.ownsRow B 2 1 u (held I k).length ((held I k).map fun j => .int .i64 (I j))
  vals : wr.ownsRow B 21 1 v (held I k).length ((held I k).map fun j => .int .i32 (V j))

theorem Gat.miss {W wr : World} {B k : Nat} {I V : Nat → Int} {u v : Value} (h : Gat W wr B k I V u v) (e : I k = -1) : Gat W wr B (k + 1) I V u v := by
  refine ⟨h.since, ?_, ?_⟩
  · rw [Tab.held_miss e]; exact h.keys
  · rw [Tab.held_miss e]; exact h.vals

theorem Gat.hit {W wr w1 w2 : World} {k : Nat} {I V : Nat → Int} {u v u' v' : Value} (h : Gat W wr W.heap.size k I V u v) (e : I k ≠ -1)
    (h1 : w1.ownsRow W.heap.size 2 1 u' ((held I k).length + 1) (((held I k).map fun j => .int .i64 (I j)) ++ [.int .i64 (I k)])) (g1 : (wr.alloc (.cells #[.int .i64 (I k)] 2)).grownBy w1 u.ownBlock)
    (h2 : w2.ownsRow W.heap.size 21 1 v' ((held I k).length + 1) (((held I k).map fun j => .int .i32 (V j)) ++ [.int .i32 (V k)])) (g2 : (w1.alloc (.cells #[.int .i32 (V k)] 21)).grownBy w2 v.ownBlock) (hv1 : w1.ownsRow W.heap.size 21 1 v (held I k).length ((held I k).map fun j => .int .i32 (V j))) :
    Gat W w2 W.heap.size (k + 1) I V u' v' := by
  have s0 := h.since.size
  have r1 : ∀ j, u.ownBlock = some j → W.heap.size ≤ j := fun j hj => (h.keys.lt j hj).1
  have r2 : ∀ j, v.ownBlock = some j → W.heap.size ≤ j := fun j hj => (h.vals.lt j hj).1
  have S1 : W.Since W.heap.size w1 := (h.since.alloc s0 _).grown g1 (by simp; omega) r1
  have S2 : W.Since W.heap.size w2 := (S1.alloc S1.size _).grown g2 (by have := S1.size; simp; omega) r2
  refine ⟨S2, ?_, ?_⟩
  · rw [Tab.held_hit e, List.length_append, List.map_append]
    refine (h1.alloc _).kept g2 ?_
    have := own_diff h1 hv1 (by omega)
    exact this
  · rw [Tab.held_hit e, List.length_append, List.map_append]
    exact h2

/-- WHAT HOLDS AT EVERY POINT BEHIND: the table, the flags' row, what is only read. -/
structure Env (w0 w : World) (M A B AL c nd : Nat) (sh : Int) (da ka va : Option Addr) (I0 V0 dl : Nat → Int) (n : Int) (al : Nat → Bool) (I V : Nat → Int) : Prop where
  set : Set4 w0 w M A B c n sh I V
  flags : w.rowIs AL 4 (cnt I0 c) (fun i => .bool (al i))
  dels : Rd (fun g => g = M ∨ g = A ∨ g = B ∨ g = AL) w da 2 nd (fun i => .int .i64 (dl i))
  keys : Rd (fun g => g = M ∨ g = A ∨ g = B ∨ g = AL) w ka 2 (cnt I0 c) (fun i => .int .i64 (key I0 c i))
  vals : Rd (fun g => g = M ∨ g = A ∨ g = B ∨ g = AL) w va 21 (cnt I0 c) (fun i => .int .i32 (val I0 V0 c i))
  lAL : w0.heap.size ≤ AL
  nM : AL ≠ M
  nA : AL ≠ A
  nB : AL ≠ B

section
variable {w0 w W : World} {M A B AL c nd : Nat} {sh n n' : Int} {da ka va : Option Addr} {I0 V0 dl I V I' V' : Nat → Int} {al : Nat → Bool}
theorem Env.keep (h : Env w0 w M A B AL c nd sh da ka va I0 V0 dl n al I V) (S : w.Since w.heap.size W) : Env w0 W M A B AL c nd sh da ka va I0 V0 dl n al I V :=
  ⟨h.set.keep S, since_row S h.flags, h.dels.keep (fun k _ hk => S.block k hk), h.keys.keep (fun k _ hk => S.block k hk), h.vals.keep (fun k _ hk => S.block k hk), h.lAL, h.nM, h.nA, h.nB⟩
theorem Env.turn (h : Env w0 w M A B AL c nd sh da ka va I0 V0 dl n al I V) (hm : MapAt W M A B c n' sh I' V') (O : Only3 M A B w W) : Env w0 W M A B AL c nd sh da ka va I0 V0 dl n' al I' V' := by
  have hk : ∀ k, ¬ (k = M ∨ k = A ∨ k = B ∨ k = AL) → k < w.heap.size → W.heap[k]? = w.heap[k]? := fun k hb _ => O.block k (fun e => hb (.inl e)) (fun e => hb (.inr (.inl e))) (fun e => hb (.inr (.inr (.inl e))))
  exact ⟨h.set.turn hm O, O.row h.flags h.nM h.nA h.nB, h.dels.keep hk, h.keys.keep hk, h.vals.keep hk, h.lAL, h.nM, h.nA, h.nB⟩
theorem Env.flag (h : Env w0 w M A B AL c nd sh da ka va I0 V0 dl n al I V) (i : Nat) (b : Bool) : Env w0 (w.setCell ⟨AL, i, none⟩ (.bool b)) M A B AL c nd sh da ka va I0 V0 dl n (fun j => if j = i then b else al j) I V := by
  have hk : ∀ k, ¬ (k = M ∨ k = A ∨ k = B ∨ k = AL) → k < w.heap.size → (w.setCell ⟨AL, i, none⟩ (.bool b)).heap[k]? = w.heap[k]? := fun k hb _ => Below.heap_setCell _ _ _ _ (fun e => hb (.inr (.inr (.inr e))))
  refine ⟨⟨⟨h.set.at_.m.setOther (fun e => h.nM e.symm) _, h.set.at_.ids.setOther (fun e => h.nA e.symm) _, h.set.at_.vals.setOther (fun e => h.nB e.symm) _⟩, h.set.since.setCell h.lAL _, h.set.la, h.set.lb, h.set.lm, h.set.ma, h.set.mb, h.set.ab⟩,
    (h.flags.set i _).congr (fun j _ => ?_), h.dels.keep hk, h.keys.keep hk, h.vals.keep hk, h.lAL, h.nM, h.nA, h.nB⟩
  by_cases e : j = i
  · simp [e]
  · simp [e]
theorem Env.reflag (h : Env w0 w M A B AL c nd sh da ka va I0 V0 dl n al I V) {al' : Nat → Bool} (e : ∀ i, i < cnt I0 c → al i = al' i) : Env w0 w M A B AL c nd sh da ka va I0 V0 dl n al' I V :=
  ⟨h.set, h.flags.congr (fun i hi => by rw [e i hi]), h.dels, h.keys, h.vals, h.lAL, h.nM, h.nA, h.nB⟩
end

theorem keys_get {I : Nat → Int} {c : Nat} : ∀ i, i < cnt I c → ((held I c).map fun j => Value.int .i64 (I j))[i]? = some (.int .i64 (key I c i)) := by
  intro i hi
  have h : i < (held I c).length := by rw [Tab.held_len]; exact hi
  rw [List.getElem?_map, List.getElem?_eq_getElem h]
  unfold key
  rw [Tab.getD_held h]
  rfl
theorem vals_get {I V : Nat → Int} {c : Nat} : ∀ i, i < cnt I c → ((held I c).map fun j => Value.int .i32 (V j))[i]? = some (.int .i32 (val I V c i)) := by
  intro i hi
  have h : i < (held I c).length := by rw [Tab.held_len]; exact hi
  rw [List.getElem?_map, List.getElem?_eq_getElem h]
  unfold val
  rw [Tab.getD_held h]
  rfl

/-- The flags' row has been made. -/
theorem env_start {w W wr : World} {M A B Dd c nd : Nat} {n sh : Int} {da : Option Addr} {I V dl : Nat → Int} {u v : Value} (hS : Set4 w W M A B c n sh I V)
    (hM : M < W.heap.size) (hA : A < W.heap.size) (hB : B < W.heap.size)
    (hd : 0 < nd → da = some ⟨Dd, 0, none⟩ ∧ (W.rowIs Dd 2 nd (fun j => .int .i64 (dl j)) ∧ Dd ≠ M ∧ Dd ≠ A ∧ Dd ≠ B)) (hG : Gat W wr W.heap.size c I V u v) :
    ∃ ka kc va vc, u = .slice ka (cnt I c) kc ∧ v = .slice va (cnt I c) vc ∧ Env w (wr.alloc (.cells (madeCells #[.bool false] (cnt I c)) 4)) M A B wr.heap.size c nd sh da ka va I V dl n (fun _ => false) I V := by
  have hl : (held I c).length = cnt I c := Tab.held_len I c
  have ls := hG.since.size
  have hk := hG.keys
  have hv := hG.vals
  rw [hl] at hk hv
  obtain ⟨ka, kc, rfl, rk⟩ := Rd.of_own (bad := fun g => g = M ∨ g = A ∨ g = B ∨ g = wr.heap.size) hk (fun g h1 h2 hb => by omega) keys_get
  obtain ⟨va, vc, rfl, rv⟩ := Rd.of_own (bad := fun g => g = M ∨ g = A ∨ g = B ∨ g = wr.heap.size) hv (fun g h1 h2 hb => by omega) vals_get
  refine ⟨ka, kc, va, vc, rfl, rfl, ?_⟩
  have S0 : wr.Since wr.heap.size (wr.alloc (.cells (madeCells #[.bool false] (cnt I c)) 4)) := (World.Since.refl _ _).alloc (Nat.le_refl _) _
  refine ⟨(hS.keep hG.since).keep S0, (World.rowIs_made wr (.bool false) (cnt I c) 4), ?_, rk.keep (fun k _ hk => S0.block k hk), rv.keep (fun k _ hk => S0.block k hk), ?_, by omega, by omega, by omega⟩
  · have hd' : 0 < nd → da = some ⟨Dd, 0, none⟩ ∧ wr.rowIs Dd 2 nd (fun j => .int .i64 (dl j)) := fun h => ⟨(hd h).1, since_row hG.since (hd h).2.1⟩
    have r : Rd (fun g => g = M ∨ g = A ∨ g = B ∨ g = wr.heap.size) wr da 2 nd (fun j => .int .i64 (dl j)) := Rd.of_row hd' (fun h hb => by
      obtain ⟨_, h2, h3, h4, h5⟩ := hd h
      have := h2.lt
      omega)
    exact r.keep (fun k _ hk => S0.block k hk)
  · have := hS.la; omega
end Go.Proofs.Qxb6003683a
