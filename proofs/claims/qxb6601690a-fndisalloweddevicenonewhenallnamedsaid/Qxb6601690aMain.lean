import Derived.Test.Qxb6601690aAuth
import Derived.Test.Qxb6601690aBounds
import Derived.Test.Qxb6601690aDis
namespace Go.Proofs.Qxb6601690a
open Go.RowKit

theorem hide {p : Prop} (h : p) : Hid p := h
theorem unhide {p : Prop} (h : Hid p) : p := h

/-- The targets' cells as a list. -/
def Tgts (B : Nat) (w : World) (n : Nat) (xs : List Value) : Prop := ∀ i, i < n → ∃ u v, xs[i * 2]? = some u ∧ xs[i * 2 + 1]? = some v ∧ Tgt B w u v

/-- WHAT HOLDS AT THE LOOP's HEAD, k devices named. -/
structure Inv (W wr : World) (D E n3 n4 k : Nat) (dv : Nat → Value) (f4 : Nat → ByteArray) : Prop where
  own : ∃ xs, wr.ownsRow E 39 2 (.slice (some ⟨E, 0, none⟩) (n3 + k) (n3 + n4)) (n3 + k) xs ∧ Tgts E wr (n3 + k) xs ∧
    ∀ j, j < k → ∃ i b o, i < n3 + k ∧ xs[i * 2]? = some (.pointer (some ⟨b, o, none⟩)) ∧ b ≠ E ∧ wr.cell? ⟨b, o, none⟩ = some (.string (f4 j))
  drow : wr.rowIs D 32 4 dv
  since : W.Since W.heap.size wr

theorem since_cell {w W : World} (T : w.Since w.heap.size W) {b o : Nat} {x : Value} (h : w.cell? ⟨b, o, none⟩ = some x) : W.cell? ⟨b, o, none⟩ = some x := by
  rw [T.cell (a := ⟨b, o, none⟩) (World.block_lt_of_cell? _ _ h)]; exact h
theorem since_since {w W1 W2 : World} (T : w.Since w.heap.size W1) (S : W1.Since W1.heap.size W2) : w.Since w.heap.size W2 :=
  T.trans ⟨S.os, S.tape, S.output, S.size, fun j hj => S.block j (by have := T.size; omega)⟩
theorem since_row {w W : World} (T : w.Since w.heap.size W) {b t n : Nat} {f : Nat → Value} (h : w.rowIs b t n f) : W.rowIs b t n f := h.of_block (T.block _ h.lt)

/-- The row that 'toAuthorization' has laid, as a list of cells. -/
theorem row_list {W : World} {ts : Option Addr} {g B n : Nat} (hts : 0 < n → ts = some ⟨g, 0, none⟩ ∧ ∃ G, W.rowIs g 39 (n * 2) G ∧ ∀ i, i < n → Tgt g W (G (i * 2)) (G (i * 2 + 1))) (hB : W.heap.size ≤ B) :
    ∃ ys : List Value, ys.length = n * 2 ∧ (∀ ad, ts = some ad → ∀ j u, ys[j]? = some u → W.cell? (ad.add j) = some u) ∧ Tgts B W n ys ∧ ∀ u ∈ ys, u.oneCell' = true := by
  by_cases h : 0 < n
  · obtain ⟨rfl, G, hr, hT⟩ := hts h
    refine ⟨(List.range (n * 2)).map G, by simp, ?_, ?_, ?_⟩
    · intro ad had j u hj
      obtain rfl := Option.some.inj had
      have hjn : j < n * 2 := by
        have := (List.getElem?_eq_some_iff.1 hj).1
        simpa using this
      have e : u = G j := by
        rw [List.getElem?_map, List.getElem?_range hjn] at hj
        exact (Option.some.inj hj).symm
      have ea : (⟨g, 0, none⟩ : Addr).add j = ⟨g, j, none⟩ := by unfold Addr.add; split <;> simp_all
      rw [e, ea]
      exact hr.cell hjn
    · intro i hi
      have e1 : i * 2 < n * 2 := by omega
      have e2 : i * 2 + 1 < n * 2 := by omega
      exact ⟨G (i * 2), G (i * 2 + 1), by simp [e1], by simp [e2], (hT i hi).rebase hB⟩
    · intro u hu
      simp at hu
      obtain ⟨j, hj, rfl⟩ := hu
      obtain ⟨⟨p, hp, _⟩, sa, sn, sc, hq⟩ := hT (j / 2) (by omega)
      rcases (show j = j / 2 * 2 ∨ j = j / 2 * 2 + 1 from by omega) with e | e
      · rw [e, hp]; rfl
      · rw [e, hq]; rfl
  · obtain rfl : n = 0 := by omega
    exact ⟨[], rfl, fun ad _ j u hj => by simp at hj, fun i hi => absurd hi (Nat.not_lt_zero _), fun u hu => by simp at hu⟩

theorem make30 (n m : Nat) (hn : 32 * (n + m) ≤ 281474976710656) (w : World) :
    (Instr.makeSlice 30 (.int .i64 0) (.int .i64 ((n : Int) + (m : Int)))).run Try.prog w = .ok (.slice (some ⟨w.heap.size, 0, none⟩) 0 (n + m)) (w.alloc (.cells (madeCells #[.pointer none, .slice none 0 0] ((n + m) * 2)) 39)) := by
  obtain ⟨i0, hi, hz0, hz1, hz2⟩ := info_parts info39
  have hr := run_make (P := Try.prog) w 30 39 i0 _ Try.underlying30 hi hz0 .i64 .i64 0 ((n : Int) + (m : Int)) (by omega) (by omega) (by rw [hz2]; omega) (by omega)
  have e : ((n : Int) + (m : Int)).toNat = n + m := by omega
  simp only [e, hz1] at hr
  exact hr

/-- The four fields of d. -/
def dvs (s : ByteArray) (u v t : Value) : Nat → Value := fun i => if i = 0 then .string s else if i = 1 then u else if i = 2 then v else t

theorem Tgts.keep {B n : Nat} {w w' : World} {xs : List Value} (h : Tgts B w n xs) (hk : ∀ b o x, b ≠ B → w.cell? ⟨b, o, none⟩ = some x → w'.cell? ⟨b, o, none⟩ = some x) : Tgts B w' n xs := by
  intro i hi
  obtain ⟨u, v, h1, h2, h3⟩ := h i hi
  exact ⟨u, v, h1, h2, h3.keep hk⟩

theorem grown_keep {E : Nat} {w w' : World} (h : w.grownBy w' (some E)) : ∀ b o x, b ≠ E → w.cell? ⟨b, o, none⟩ = some x → w'.cell? ⟨b, o, none⟩ = some x := by
  intro b o x hb hc
  rw [World.cell?_of_block (w := w) (a := ⟨b, o, none⟩) (h.block b (by have := World.block_lt_of_cell? _ _ hc; exact this) (by simpa using hb))]
  exact hc

theorem inv_start {W w1 : World} {n3 n4 : Nat} {s : ByteArray} {u v t : Value} {ys : List Value} {f4 : Nat → ByteArray} {c39 : Array Value}
    (hT : Tgts (W.heap.size + 1) W n3 ys)
    (hown : w1.ownsRow (W.heap.size + 1) 39 2 (.slice (some ⟨W.heap.size + 1, 0, none⟩) (n3 + 0) (n3 + n4)) (n3 + 0) ys)
    (hg : ((W.alloc (.cells #[.string s, u, v, t] 32)).alloc (.cells c39 39)).grownBy w1 (some (W.heap.size + 1))) :
    Inv W w1 W.heap.size (W.heap.size + 1) n3 n4 0 (dvs s u v t) f4 := by
  have hS0 : W.Since W.heap.size ((W.alloc (.cells #[.string s, u, v, t] 32)).alloc (.cells c39 39)) := ((World.Since.refl _ _).alloc (Nat.le_refl _) _).alloc (by simp) _
  have hS : W.Since W.heap.size w1 := hS0.grown hg (by simp; omega) (fun k hk => by cases hk; omega)
  refine ⟨⟨ys, hown, ?_, fun j hj => absurd hj (Nat.not_lt_zero _)⟩, ?_, hS⟩
  · exact hT.keep (fun b o x _ hc => since_cell hS hc)
  · have hr : ((W.alloc (.cells #[.string s, u, v, t] 32)).alloc (.cells c39 39)).rowIs W.heap.size 32 4 (dvs s u v t) := by
      refine World.rowIs.alloc (World.rowIs_alloc W #[.string s, u, v, t] 32 _ ?_) _
      intro i hi
      match i, hi with
      | 0, _ => rfl
      | 1, _ => rfl
      | 2, _ => rfl
      | 3, _ => rfl
    exact hr.of_block (hg.block _ hr.lt (by simp))

theorem inv_step {W wr w1 : World} {D E n3 n4 k : Nat} {dv : Nat → Value} {f4 : Nat → ByteArray} {xs : List Value} (hDE : D ≠ E) (hWE : W.heap.size ≤ E)
    (hown0 : wr.ownsRow E 39 2 (.slice (some ⟨E, 0, none⟩) (n3 + k) (n3 + n4)) (n3 + k) xs) (hT : Tgts E wr (n3 + k) xs)
    (hN : ∀ j, j < k → ∃ i b o, i < n3 + k ∧ xs[i * 2]? = some (.pointer (some ⟨b, o, none⟩)) ∧ b ≠ E ∧ wr.cell? ⟨b, o, none⟩ = some (.string (f4 j)))
    (hd : wr.rowIs D 32 4 dv) (hS : W.Since W.heap.size wr) (hf : (f4 k).size ≤ maxLen)
    (hown : w1.ownsRow E 39 2 (.slice (some ⟨E, 0, none⟩) (n3 + k + 1) (n3 + n4)) (n3 + k + 1) (xs ++ [.pointer (some ⟨wr.heap.size, 0, none⟩), .slice none 0 0]))
    (hg : ((wr.alloc (.cells #[.string (f4 k)] 9)).alloc (.cells #[.pointer (some ⟨wr.heap.size, 0, none⟩), .slice none 0 0] 39)).grownBy w1 (some E)) :
    Inv W w1 D E n3 n4 (k + 1) dv f4 := by
  have hEr : E < wr.heap.size := (hown0.lt E (by simp [Value.ownBlock])).2
  have hS0 : wr.Since wr.heap.size ((wr.alloc (.cells #[.string (f4 k)] 9)).alloc (.cells #[.pointer (some ⟨wr.heap.size, 0, none⟩), .slice none 0 0] 39)) := ((World.Since.refl _ _).alloc (Nat.le_refl _) _).alloc (by simp) _
  have hkeep : ∀ b o x, b ≠ E → wr.cell? ⟨b, o, none⟩ = some x → w1.cell? ⟨b, o, none⟩ = some x := fun b o x hb hc => grown_keep hg b o x hb (since_cell hS0 hc)
  have hnew : w1.cell? ⟨wr.heap.size, 0, none⟩ = some (.string (f4 k)) := by
    refine grown_keep hg _ _ _ (by omega) ?_
    rw [World.cell?_alloc_old _ _ _ (by simp)]
    simp
  have hxl := hown0.1
  have hS1 : W.Since W.heap.size w1 := (since_since hS hS0).grown hg (by have := hS.size; simp; omega) (fun j hj => by cases hj; omega)
  refine ⟨⟨_, hown, ?_, ?_⟩, ?_, hS1⟩
  · intro i hi
    by_cases e : i < n3 + k
    · obtain ⟨u, v, h1, h2, h3⟩ := hT i e
      exact ⟨u, v, by rw [List.getElem?_append_left (by omega)]; exact h1, by rw [List.getElem?_append_left (by omega)]; exact h2, h3.keep hkeep⟩
    · obtain rfl : i = n3 + k := by omega
      refine ⟨.pointer (some ⟨wr.heap.size, 0, none⟩), .slice none 0 0, ?_, ?_, ⟨_, rfl, .inr ⟨_, _, f4 k, rfl, by omega, hf, hnew⟩⟩, _, _, _, rfl⟩
      · rw [List.getElem?_append_right (by omega), hxl]; simp
      · rw [List.getElem?_append_right (by omega), hxl]
        have : (n3 + k) * 2 + 1 - (n3 + k) * 2 = 1 := by omega
        rw [this]; rfl
  · intro j hj
    by_cases e : j < k
    · obtain ⟨i, b, o, h1, h2, h3, h4⟩ := hN j e
      exact ⟨i, b, o, by omega, by rw [List.getElem?_append_left (by omega)]; exact h2, h3, hkeep _ _ _ h3 h4⟩
    · obtain rfl : j = k := by omega
      exact ⟨n3 + j, wr.heap.size, 0, by omega, by rw [List.getElem?_append_right (by omega), hxl]; simp, by omega, hnew⟩
  · exact (since_row hS0 hd).of_block (hg.block _ (since_row hS0 hd).lt (by simpa using hDE))

theorem Tgt.keepS {B : Nat} {w w' : World} {u v : Value} (h : Tgt B w u v) (hk : ∀ b o t, w.cell? ⟨b, o, none⟩ = some (.string t) → w'.cell? ⟨b, o, none⟩ = some (.string t)) : Tgt B w' u v := by
  obtain ⟨⟨p, hu, hp⟩, hv⟩ := h
  refine ⟨⟨p, hu, ?_⟩, hv⟩
  rcases hp with hp | ⟨b, o, s, hp, hb, hm, hc⟩
  · exact .inl hp
  · exact .inr ⟨b, o, s, hp, hb, hm, hk _ _ _ hc⟩

/-- The world behind 'd.AllowedTargetAiotDevices = ext': what DisallowedDevice asks. -/
theorem inv_end {W wr : World} {D E n3 n4 : Nat} {dv : Nat → Value} {f4 : Nat → ByteArray} {a : Option Addr} {l c : Nat} {x : Value} (h : Inv W wr D E n3 n4 n4 dv f4) (hD : wr.cell? ⟨D, 3, none⟩ = some (.slice a l c)) (hDE : D ≠ E) (hWD : W.heap.size ≤ D) :
    ∃ G : Nat → Value, (∀ i, i < n3 + n4 → (wr.setCell ⟨D, 3, none⟩ x).cell? ⟨E, i * 2, none⟩ = some (G (i * 2)) ∧ (wr.setCell ⟨D, 3, none⟩ x).cell? ⟨E, i * 2 + 1, none⟩ = some (G (i * 2 + 1))) ∧
      (∀ i, i < n3 + n4 → Tgt E (wr.setCell ⟨D, 3, none⟩ x) (G (i * 2)) (G (i * 2 + 1))) ∧
      (∀ j, j < n4 → ∃ i b o, i < n3 + n4 ∧ G (i * 2) = .pointer (some ⟨b, o, none⟩) ∧ (wr.setCell ⟨D, 3, none⟩ x).cell? ⟨b, o, none⟩ = some (.string (f4 j))) ∧
      W.Since W.heap.size (wr.setCell ⟨D, 3, none⟩ x) := by
  obtain ⟨⟨xs, hown, hT, hN⟩, hd, hS⟩ := h
  have hk : ∀ b o t, wr.cell? ⟨b, o, none⟩ = some (.string t) → (wr.setCell ⟨D, 3, none⟩ x).cell? ⟨b, o, none⟩ = some (.string t) := by
    intro b o t hc
    rw [World.cell?_setCell_other _ _ _ _ (fun e => by rw [← e, hD] at hc; simp at hc)]
    exact hc
  have hE : ∀ o, (wr.setCell ⟨D, 3, none⟩ x).cell? ⟨E, o, none⟩ = wr.cell? ⟨E, o, none⟩ := fun o => World.cell?_setCell_other _ _ _ _ (fun e => hDE (by have := congrArg Addr.block e; simpa using this))
  refine ⟨fun j => (xs[j]?).getD (.bool false), ?_, ?_, ?_, hS.setCell hWD _⟩
  · intro i hi
    obtain ⟨u, v, h1, h2, _⟩ := hT i hi
    rw [hE, hE, hown.cellAt (i * 2) (by omega), hown.cellAt (i * 2 + 1) (by omega)]
    simp only [h1, h2, Option.getD_some, and_self]
  · intro i hi
    obtain ⟨u, v, h1, h2, h3⟩ := hT i hi
    simp only [h1, h2, Option.getD_some]
    exact h3.keepS hk
  · intro j hj
    obtain ⟨i, b, o, h1, h2, _, h4⟩ := hN j hj
    exact ⟨i, b, o, h1, by simp only [h2, Option.getD_some], hk _ _ _ h4⟩

set_option maxHeartbeats 1000000 in
set_option maxRecDepth 100000 in
theorem main_walk (s : ByteArray) (a1 : Option Addr) (n1 c1 : Nat) (a2 : Option Addr) (n2 c2 : Nat) (a3 : Option Addr) (n3 c3 : Nat) (a4 : Option Addr) (n4 c4 : Nat)
    (f1 : Nat → Int) (f2 f4 : Nat → ByteArray) (p : Nat → Option Addr) (sa : Nat → Option Addr) (sn sc : Nat → Nat) (fb : Nat → Nat → Int) (w : World)
    (m2 : n2 ≤ 9223372036854775807) (m3 : n3 ≤ 9223372036854775807) (m4 : n4 ≤ 9223372036854775807)
    (h1 : 0 < n1 → ∃ b off, a1 = some ⟨b, off, none⟩ ∧ ∀ i, i < n1 → w.cell? ⟨b, off + i, none⟩ = some (.int .u8 (f1 i)))
    (h2 : 0 < n2 → ∃ b off, a2 = some ⟨b, off, none⟩ ∧ ∀ i, i < n2 → w.cell? ⟨b, off + i, none⟩ = some (.string (f2 i)))
    (h3 : 0 < n3 → ∃ b off, a3 = some ⟨b, off, none⟩ ∧ ∀ i, i < n3 → w.cell? ⟨b, off + i * 2, none⟩ = some (.pointer (p i)) ∧ w.cell? ⟨b, off + i * 2 + 1, none⟩ = some (.slice (sa i) (sn i) (sc i)))
    (hp : ∀ i, i < n3 → p i = none ∨ ∃ b o s, p i = some ⟨b, o, none⟩ ∧ s.size ≤ maxLen ∧ w.cell? ⟨b, o, none⟩ = some (.string s))
    (hs : ∀ i, i < n3 → 0 < sn i → ∃ b off, sa i = some ⟨b, off, none⟩ ∧ ∀ j, j < sn i → w.cell? ⟨b, off + j, none⟩ = some (.int .u8 (fb i j)))
    (h4 : 0 < n4 → ∃ b off, a4 = some ⟨b, off, none⟩ ∧ ∀ i, i < n4 → w.cell? ⟨b, off + i, none⟩ = some (.string (f4 i)))
    (hf4 : ∀ j, j < n4 → (f4 j).size ≤ maxLen) :
    Calls Try.prog 4 #[.string s, .slice a1 n1 c1, .slice a2 n2 c2, .slice a3 n3 c3, .slice a4 n4 c4] w fun e w' => e = .returned (.bool true) ∧ w.Since w.heap.size w' := by
  have hp' : ∀ i, i < n3 → p i = none ∨ ∃ b o s, p i = some ⟨b, o, none⟩ ∧ w.cell? ⟨b, o, none⟩ = some (.string s) := fun i hi => by
    rcases hp i hi with h | ⟨b, o, t, h, _, hc⟩
    · exact .inl h
    · exact .inr ⟨b, o, t, h, hc⟩
  have C13 := zzBytes_any s a1 n1 c1 a2 n2 c2 a3 n3 c3 a4 n4 c4 f2 f4 p sa sn sc w m2 m3 m4 h2 h3 hp' h4
  have C6 := fits_any s a1 n1 c1 a2 n2 c2 a3 n3 c3 a4 n4 c4 f2 f4 p sa sn sc w m2 m3 m4 h2 h3 hp' h4
  have H1 := hide h1
  have H2 := hide h2
  have H3 := hide h3
  have H4 := hide h4
  have HP := hide hp
  have HS := hide hs
  have HF := hide hf4
  have K13 := hide C13
  have K6 := hide C6
  clear h1 h2 h3 h4 hp hp' hs hf4 C13 C6
  go_enter Try.func4, Try.ntmps4
  go_wp2_with fail
  refine (unhide K13).mono ?_
  rintro e w0 ⟨⟨b13, rfl, hq⟩, hw0⟩
  subst w0
  have HSN := hide hq
  clear hq
  cases b13
  · go_wp2
    go_ret
    exact ⟨rfl, World.Since.refl _ _⟩
  have HSM := hide (unhide HSN rfl)
  clear HSN
  go_wp2_with fail
  all_goals first | (go_ret; exact ⟨rfl, World.Since.refl _ _⟩) | skip
  refine (unhide K6).mono ?_
  rintro e w0 ⟨⟨b6, rfl⟩, hw0⟩
  subst w0
  clear K13 K6
  cases b6
  · go_wp2
    go_ret
    exact ⟨rfl, World.Since.refl _ _⟩
  go_wp2_with fail
  -- area = copyBytes(area)
  refine (copyBytes_any _ _ _ f1 _ (by omega) (unhide H1)).mono ?_
  rintro e W1 ⟨⟨ra, rn, rc, rfl⟩, S1⟩
  clear H1
  go_wp2_with fail
  -- ops = copyStrings(ops)
  refine (copyStrings_any _ _ _ f2 _ (by omega) ?_).mono ?_
  · intro h
    obtain ⟨b, off, e1, e2⟩ := unhide H2 h
    exact ⟨b, off, e1, fun i hi => since_keep (B := w.heap.size) S1 _ _ _ (by have := World.block_lt_of_cell? _ _ (e2 i hi); simp at this; omega) (e2 i hi)⟩
  rintro e W2 ⟨⟨ro, rfl, _⟩, S2⟩
  clear H2
  have T2 := since_since S1 S2
  clear S2 S1
  have q3 : n3 ≤ 4096 := by omega
  have q4 : n4 ≤ 4096 := by omega
  go_wp2_with fail
  -- targets = copyTargets(targets)
  refine (copyTargets_any _ _ _ p sa sn sc fb _ (by omega) ?_ ?_ (fun i hi => Nat.le_trans (unhide HSM i hi) (by omega)) ?_).mono ?_
  · intro h
    obtain ⟨b, off, e1, e2⟩ := unhide H3 h
    exact ⟨b, off, e1, fun i hi => ⟨since_cell T2 (e2 i hi).1, since_cell T2 (e2 i hi).2⟩⟩
  · intro i hi
    rcases unhide HP i hi with h | ⟨b, o, t, h, hm, hc⟩
    · exact .inl h
    · exact .inr ⟨b, o, t, h, hm, since_cell T2 hc⟩
  · intro i hi h
    obtain ⟨b, off, e1, e2⟩ := unhide HS i hi h
    exact ⟨b, off, e1, fun j hj => since_cell T2 (e2 j hj)⟩
  rintro e W3 ⟨⟨rt, rfl, ht⟩, S3⟩
  have HT := hide ht
  have T3 := since_since T2 S3
  clear H3 HP HS HSM ht S3 T2
  go_wp2_with fail
  -- devices = copyStrings(devices)
  refine (copyStrings_any _ _ _ f4 _ (by omega) ?_).mono ?_
  · intro h
    obtain ⟨b, off, e1, e2⟩ := unhide H4 h
    exact ⟨b, off, e1, fun i hi => since_cell T3 (e2 i hi)⟩
  rintro e W4 ⟨⟨rd, rfl, hd⟩, S4⟩
  have HD := hide hd
  have T4 := since_since T3 S4
  clear H4 hd T3
  go_wp2_with fail
  -- d := toAuthorization(..)
  refine (toAuth_any _ _ _ _ _ _ _ _ _ _ W2.heap.size _ (by omega) ?_).mono ?_
  · intro h
    obtain ⟨e1, G, e2, e3⟩ := unhide HT h
    exact ⟨_, G, e1, since_row S4 e2, fun i hi => (e3 i hi).keep (since_keep S4)⟩
  rintro e W5 ⟨⟨ts, rfl, hts⟩, S5⟩
  obtain ⟨ys, yl, yc, yT, y1⟩ := row_list hts (B := W5.heap.size + 1) (by omega)
  have hn0 : ts = none → n3 = 0 ∧ n3 = 0 := by
    intro h
    by_cases h0 : 0 < n3
    · have := (hts h0).1; rw [h] at this; cases this
    · omega
  have HY := hide (And.intro yl (And.intro yc (And.intro yT (And.intro y1 hn0))))
  have HDV : Hid (0 < n4 → rd = some ⟨W3.heap.size, 0, none⟩ ∧ W5.rowIs W3.heap.size 9 n4 (fun j => .string (f4 j))) := fun h => ⟨(unhide HD h).1, since_row S5 (unhide HD h).2⟩
  have T5 := since_since T4 S5
  clear HT HD S4 T4 hts S5 yl yc yT y1 hn0
  have hmk := make30 n3 n4 (by omega)
  obtain ⟨i0, hi, hz0, hz1, hz2⟩ := info_parts info39
  have HI := hide hi
  have HZ := hide hz1
  clear hi hz0 hz1 hz2
  have HOWN : Hid (((W5.alloc (.cells #[.string s, .slice ra rn rc, .slice ro n2 n2, .slice ts n3 n3] 32)).alloc (.cells (madeCells #[.pointer none, .slice none 0 0] ((n3 + n4) * 2)) 39)).ownsRow (W5.heap.size + 1) 39 2 (.slice (some ⟨W5.heap.size + 1, 0, none⟩) 0 (n3 + n4)) 0 []) := by
    have := World.ownsRow_made (base := W5.heap.size + 1) (e := 39) (size := 2) (W5.alloc (.cells #[.string s, .slice ra rn rc, .slice ro n2 n2, .slice ts n3 n3] 32)) (madeCells #[.pointer none, .slice none 0 0] ((n3 + n4) * 2)) (n3 + n4) (by simp) (by unfold maxLen; omega) (size_madeCells _ _)
    refine hide ?_
    simpa using this
  have HYC : Hid (∀ ad, ts = some ad → ∀ j u, ys[j]? = some u → ((W5.alloc (.cells #[.string s, .slice ra rn rc, .slice ro n2 n2, .slice ts n3 n3] 32)).alloc (.cells (madeCells #[.pointer none, .slice none 0 0] ((n3 + n4) * 2)) 39)).cell? (ad.add j) = some u) := by
    intro ad had j u hj
    have h5 := (unhide HY).2.1 ad had j u hj
    have hS0 : W5.Since W5.heap.size ((W5.alloc (.cells #[.string s, .slice ra rn rc, .slice ro n2 n2, .slice ts n3 n3] 32)).alloc (.cells (madeCells #[.pointer none, .slice none 0 0] ((n3 + n4) * 2)) 39)) := ((World.Since.refl _ _).alloc (Nat.le_refl _) _).alloc (by simp) _
    rw [hS0.cell (World.block_lt_of_cell? _ _ h5)]
    exact h5
  go_wp2_with (at_builtin; refine wpList_append_fits_any _ rfl (.tmp 74) (.tmp 76) 30 rfl (W5.heap.size + 1) 39 i0 2 Try.underlying30 (unhide HI) (unhide HZ) (W5.heap.size + 1) 0 (n3 + n4) [] rfl (unhide HOWN) ts n3 n3 ys rfl (unhide HY).1 (unhide HY).2.2.2.2 (unhide HYC) (unhide HY).2.2.2.1 (by omega) ?_)
  intro w1 hown1 hgrow1
  have hI0 : Inv W5 w1 W5.heap.size (W5.heap.size + 1) n3 n4 0 (dvs s (.slice ra rn rc) (.slice ro n2 n2) (.slice ts n3 n3)) f4 := inv_start (unhide HY).2.2.1 hown1 hgrow1
  clear hown1 hgrow1 HYC HOWN HY hmk
  go_wp2
  go_loopg [12, 13] n4 (fun gg ext i wr => ∃ k : Nat, k ≤ n4 ∧ gg = n4 - k ∧ i = .int .i64 k ∧ ext = .slice (some ⟨W5.heap.size + 1, 0, none⟩) (n3 + k) (n3 + n4) ∧ Inv W5 wr W5.heap.size (W5.heap.size + 1) n3 n4 k (dvs s (.slice ra rn rc) (.slice ro n2 n2) (.slice ts n3 n3)) f4)
  case atStart => exact ⟨0, Nat.zero_le _, rfl, rfl, by simp, hI0⟩
  case round =>
    obtain ⟨k, hk, rfl, rfl, rfl, hI⟩ := hrel
    clear hI0
    by_cases hlt : k < n4
    · obtain ⟨rfl, hdr⟩ := unhide HDV (by omega)
      obtain ⟨⟨xs, hown, hT, hN⟩, hdw, hS⟩ := hI
      have g0 : ∀ o, (wr.alloc o).cell? ⟨W3.heap.size, k, none⟩ = some (.string (f4 k)) := fun o => by
        rw [World.cell?_alloc_old _ _ _ (by have h1 := (since_row hS hdr).lt; show W3.heap.size ≠ _; omega)]
        exact (since_row hS hdr).cell hlt
      have HN := hide hN
      have HT := hide hT
      clear hN hT
      go_wp2_with (at_builtin; refine wpList_append_fits _ rfl (.tmp 91) (.tmp 94) 30 rfl (W5.heap.size + 1) 39 i0 2 Try.underlying30 (unhide HI) (unhide HZ) (W5.heap.size + 1) (n3 + k) (n3 + n4) xs rfl ((hown.alloc _).alloc _) ⟨wr.heap.size + 1, 0, none⟩ 1 1 [.pointer (some ⟨wr.heap.size, 0, none⟩), .slice none 0 0] rfl rfl ?c1 ?c2 (by omega) ?_)
      case c2 => exact ⟨rfl, rfl⟩
      intro w2 hown2 hgrow2
      have R := inv_step (by omega) (by omega) hown (unhide HT) (unhide HN) hdw hS (unhide HF k hlt) hown2 hgrow2
      clear hown2 hgrow2 hown HT HN hdw hS g0
      go_wp2
      go_roundg (n4 - (k + 1))
      case measure => go_light; omega
      case rel => go_light; exact ⟨k + 1, by omega, rfl, by go_num, rfl, R⟩
    · obtain rfl : k = n4 := by omega
      have d0 : wr.cell? ⟨W5.heap.size, 0, none⟩ = some (.string s) := hI.drow.cell (by omega)
      have d1 : wr.cell? ⟨W5.heap.size, 1, none⟩ = some (.slice ra rn rc) := hI.drow.cell (by omega)
      have d2 : wr.cell? ⟨W5.heap.size, 2, none⟩ = some (.slice ro n2 n2) := hI.drow.cell (by omega)
      have d3 : wr.cell? ⟨W5.heap.size, 3, none⟩ = some (.slice ts n3 n3) := hI.drow.cell (by omega)
      have z3 := hI.drow.frozen 3
      go_wp2_with fail
      obtain ⟨G, e1, e2, e3, e4⟩ := inv_end (x := .slice (some ⟨W5.heap.size + 1, 0, none⟩) (n3 + k) (n3 + k)) hI d3 (by omega) (Nat.le_refl _)
      refine (disallowed_any s ra ro rn rc n2 n2 (W5.heap.size + 1) (n3 + k) (n3 + k) G (W5.heap.size + 1) rd k k f4 _ (by omega) (by omega) e1 e2 ?_ (unhide HF) e3).mono ?_
      · intro h
        obtain ⟨h1, h2⟩ := unhide HDV h
        exact ⟨_, 0, h1, fun j hj => by simpa using (since_row e4 h2).cell hj⟩
      rintro e W6 ⟨rfl, S6⟩
      have T6 := since_since (since_since T5 e4) S6
      clear e1 e2 e3 e4 hI d0 d1 d2 d3 z3 HDV S6
      go_wp2
      go_ret
      exact ⟨rfl, T6⟩
end Go.Proofs.Qxb6601690a
