import Derived.Test.Qxb6601690aMain
import Derived.ProofKit
import Derived.OpenShut
import Derived.ShutString
import Derived.ChangeOld
import Derived.SliceStrings
import Derived.Deep.Slices
import Derived.Deep.SlicePairs
namespace Go.Proofs.Qxb6601690a
open Go.ChangeShapes Go.WideShapes Go.ChangeAt Go.RowKit Go.Deep
open Go.ChangeMaps (open_string shut_string)

theorem own : ownKnob Try.prog.godebug = none := by kernel_rfl
theorem laidOut : laidOutB Try.prog = true := by kernel_rfl
theorem cells5 : Try.prog.cellsOf 5 = 1 := by kernel_rfl
theorem cells9 : Try.prog.cellsOf 9 = 1 := by kernel_rfl
theorem cells41 : Try.prog.cellsOf 41 = 2 := by kernel_rfl
theorem cells37 : Try.prog.cellsOf 37 = 1 := by kernel_rfl
theorem cells22 : Try.prog.cellsOf 22 = 1 := by kernel_rfl

theorem plain_addr {W : World} {a : Addr} {v : Value} (h : W.cell? a = some v) : ∃ b off, a = ⟨b, off, none⟩ := by
  obtain ⟨b, off, spot⟩ := a
  have hs : spot = none := by simpa using World.cell?_spot h
  exact ⟨b, off, by rw [hs]⟩

section
variable {H : Type} {enc : TypeId × Value → H} {W : World} {fuel : Nat} {x : DataW H × List MemPlace}

theorem view_bytes {a : Option Addr} {n c : Nat} (h : DataW.trod enc Try.prog W 0 (fun _ => true) true fuel 22 [.slice a n c] = some x) :
    n ≤ maxLen ∧ ∃ f : Nat → Int, 0 < n → ∃ b off, a = some ⟨b, off, none⟩ ∧ ∀ i, i < n → W.cell? ⟨b, off + i, none⟩ = some (.int .u8 (f i)) := by
  rcases open_ints Try.underlying22 Try.underlying5 cells5 h with ⟨hcs, _⟩ | ⟨y, l, k, zs, hcs, _, hl, hm, hz, _, hcell, _⟩
  · simp at hcs
    obtain ⟨_, rfl, _⟩ := hcs
    exact ⟨Nat.zero_le _, fun _ => 0, fun h => absurd h (Nat.lt_irrefl _)⟩
  · simp at hcs
    obtain ⟨rfl, rfl, rfl⟩ := hcs
    refine ⟨by omega, fun i => zs.getD i 0, fun hn => ?_⟩
    have hlz : zs.length = c := by simpa using hz
    obtain ⟨b, off, rfl⟩ : ∃ b off, y = ⟨b, off, none⟩ := by
      have h0 := hcell 0 (by omega)
      have e0 : y.add 0 = y := by simp [Addr.add]
      rw [e0] at h0
      exact plain_addr h0
    exact ⟨b, off, rfl, fun i hi => by rw [← add_plain]; exact hcell i (by omega)⟩

theorem view_strings {a : Option Addr} {n c : Nat} (h : DataW.trod enc Try.prog W 0 (fun _ => true) true fuel 23 [.slice a n c] = some x) :
    n ≤ maxLen ∧ ∃ f : Nat → ByteArray, (0 < n → ∃ b off, a = some ⟨b, off, none⟩ ∧ ∀ i, i < n → W.cell? ⟨b, off + i, none⟩ = some (.string (f i))) ∧ ∀ i, i < n → (f i).size ≤ maxLen := by
  rcases open_strings Try.underlying23 Try.underlying9 cells9 h with ⟨hcs, _⟩ | ⟨y, l, k, zs, hcs, _, hl, hm, hz, _, hcell, hw⟩
  · simp at hcs
    obtain ⟨_, rfl, _⟩ := hcs
    exact ⟨Nat.zero_le _, fun _ => ByteArray.empty, fun h => absurd h (Nat.lt_irrefl _), fun i hi => absurd hi (Nat.not_lt_zero _)⟩
  · simp at hcs
    obtain ⟨rfl, rfl, rfl⟩ := hcs
    have hlz : zs.length = c := by simpa using hz
    refine ⟨by omega, fun i => zs.getD i ByteArray.empty, fun hn => ?_, fun i hi => ?_⟩
    · obtain ⟨b, off, rfl⟩ : ∃ b off, y = ⟨b, off, none⟩ := by
        have h0 := hcell 0 (by omega)
        have e0 : y.add 0 = y := by simp [Addr.add]
        rw [e0] at h0
        exact plain_addr h0
      exact ⟨b, off, rfl, fun i hi => by rw [← add_plain]; exact hcell i (by omega)⟩
    · have hi' : i < zs.length := by omega
      have e : zs.getD i ByteArray.empty = zs[i] := by simp [List.getD, hi']
      show (zs.getD i ByteArray.empty).size ≤ maxLen
      rw [e]
      exact hw _ (List.getElem_mem hi')

theorem view_targets {a : Option Addr} {n c : Nat} (h : DataW.trod enc Try.prog W 0 (fun _ => true) true fuel 24 [.slice a n c] = some x) :
    n ≤ maxLen ∧ ∃ (p sa : Nat → Option Addr) (sn sc : Nat → Nat) (fb : Nat → Nat → Int),
      (0 < n → ∃ b off, a = some ⟨b, off, none⟩ ∧ ∀ i, i < n → W.cell? ⟨b, off + i * 2, none⟩ = some (.pointer (p i)) ∧ W.cell? ⟨b, off + i * 2 + 1, none⟩ = some (.slice (sa i) (sn i) (sc i))) ∧
      (∀ i, i < n → p i = none ∨ ∃ b o s, p i = some ⟨b, o, none⟩ ∧ s.size ≤ maxLen ∧ W.cell? ⟨b, o, none⟩ = some (.string s)) ∧
      (∀ i, i < n → 0 < sn i → ∃ b off, sa i = some ⟨b, off, none⟩ ∧ ∀ j, j < sn i → W.cell? ⟨b, off + j, none⟩ = some (.int .u8 (fb i j))) := by
  rcases open_slice_pairs Try.underlying24 Try.underlying41 cells41 rfl rfl cells37 cells22 h with ⟨hcs, _⟩ | ⟨y, l, k, m, nf, V0, V1, D0, D1, P0, P1, hcs, _, hl, hm, hmm, _, hx⟩
  · simp at hcs
    obtain ⟨_, rfl, _⟩ := hcs
    exact ⟨Nat.zero_le _, fun _ => none, fun _ => none, fun _ => 0, fun _ => 0, fun _ _ => 0, fun h => absurd h (Nat.lt_irrefl _), fun i hi => absurd hi (Nat.not_lt_zero _), fun i hi => absurd hi (Nat.not_lt_zero _)⟩
  · simp at hcs
    obtain ⟨rfl, rfl, rfl⟩ := hcs
    have hmc : m = c := by simpa using hmm
    subst hmc
    have each : ∀ i, i < n → ∃ q : Option Addr × Option Addr × Nat × Nat × (Nat → Int), V0 i = .pointer q.1 ∧ V1 i = .slice q.2.1 q.2.2.1 q.2.2.2.1 ∧
        (q.1 = none ∨ ∃ b o s, q.1 = some ⟨b, o, none⟩ ∧ s.size ≤ maxLen ∧ W.cell? ⟨b, o, none⟩ = some (.string s)) ∧
        (0 < q.2.2.1 → ∃ b off, q.2.1 = some ⟨b, off, none⟩ ∧ ∀ j, j < q.2.2.1 → W.cell? ⟨b, off + j, none⟩ = some (.int .u8 (q.2.2.2.2 j))) := by
      intro i hi
      obtain ⟨_, _, h0, h1⟩ := hx i (by omega)
      have hs : ∃ (sa : Option Addr) (sn sc : Nat) (fb : Nat → Int), V1 i = .slice sa sn sc ∧ (0 < sn → ∃ b off, sa = some ⟨b, off, none⟩ ∧ ∀ j, j < sn → W.cell? ⟨b, off + j, none⟩ = some (.int .u8 (fb j))) := by
        rcases open_ints Try.underlying22 Try.underlying5 cells5 h1 with ⟨hcs, _⟩ | ⟨y', l', k', zs, hcs, _⟩
        · simp at hcs
          exact ⟨none, 0, 0, fun _ => 0, hcs, fun h => absurd h (Nat.lt_irrefl _)⟩
        · simp at hcs
          rw [hcs] at h1
          obtain ⟨_, f, hf⟩ := view_bytes h1
          exact ⟨_, _, _, f, hcs, hf⟩
      obtain ⟨sa, sn, sc, fb, e1, e2⟩ := hs
      rcases DataW.trod_pointer Try.underlying37 h0 with ⟨e, _⟩ | ⟨ad, cs', yy, nn, _, e, _, hcells, hd'⟩
      · simp at e
        exact ⟨(none, sa, sn, sc, fb), e, e1, .inl rfl, e2⟩
      · simp at e
        obtain ⟨s, rfl, _, hsz⟩ := DataW.trod_string Try.underlying9 hd'
        rw [cells9] at hcells
        obtain ⟨_, _, hc⟩ := World.cells?_some hcells
        have hc0 := hc 0 (by omega)
        have e0 : ad.add 0 = ad := by simp [Addr.add]
        rw [e0] at hc0
        obtain ⟨b, o, rfl⟩ := plain_addr (v := .string s) (by simpa using hc0)
        exact ⟨(some ⟨b, o, none⟩, sa, sn, sc, fb), e, e1, .inr ⟨b, o, s, rfl, hsz, by simpa using hc0⟩, e2⟩
    obtain ⟨q, hq⟩ := choose_lt each
    refine ⟨by omega, fun i => (q i).1, fun i => (q i).2.1, fun i => (q i).2.2.1, fun i => (q i).2.2.2.1, fun i => (q i).2.2.2.2, fun hn => ?_, fun i hi => (hq i hi).2.2.1, fun i hi => (hq i hi).2.2.2⟩
    obtain ⟨b, off, rfl⟩ : ∃ b off, y = ⟨b, off, none⟩ := by
      have h0 := (hx 0 (by omega)).1
      have e0 : y.add (0 * 2) = y := by simp [Addr.add]
      rw [e0] at h0
      exact plain_addr h0
    refine ⟨b, off, rfl, fun i hi => ?_⟩
    have g := hx i (by omega)
    rw [add_plain, add_plain] at g
    refine ⟨by rw [g.1, (hq i hi).1], ?_⟩
    have := g.2.1
    rw [(hq i hi).2.1] at this
    simpa [Nat.add_assoc] using this
end

set_option maxRecDepth 100000 in
theorem lifted (os : Os) (started : os.Started) (H : Type) (enc : TypeId × Value → H) :
    ReturnsInHanded {} Try.checked os 4 .any (Rows.fnDisallowedDeviceNoneWhenAllNamedSpec.pre6 enc Try.prog Try.f4 Rows.fnDisallowedDeviceNoneWhenAllNamedRow.domain false) (Rows.fnDisallowedDeviceNoneWhenAllNamedSpec.post enc Try.prog Try.f4 false true false false) := by
  refine returnsInHanded_of_change (C := Try.checked) own started (by kernel_rfl) Try.func4
    (ChangeSpec.witness6 (enc := enc) (C := Try.checked) false ⟨#[], #[.string ByteArray.empty, .slice none 0 0, .slice none 0 0, .slice none 0 0, .slice none 0 0], []⟩ 8 (by kernel_rfl) (by kernel_rfl) (by kernel_rfl) (by kernel_rfl)) ?_
  intro W base args ds gs before hval0 hW hcnd _
  have hval : ∀ (j : Nat) t v, Try.f4.params[j]? = some t → args[j]? = some v → Value.okWide Try.prog W .any base t v := hval0
  have hW' := hW
  obtain ⟨p, q, hA0, hV, rfl, hfz, hnd⟩ := hW
  have hA : DataW.TrodAll enc Try.prog W 0 (fun _ => true) true Try.f4.params.toList args.toList ds p := hA0
  rw [Try.params4] at hA hval
  obtain ⟨v0, vs0, d0, ds0, p0, q0, hargs, rfl, rfl, h0, r0⟩ := trodAll_cons hA
  obtain ⟨v1, vs1, d1, ds1, p1, q1, rfl, rfl, rfl, h1, r1⟩ := trodAll_cons r0
  obtain ⟨v2, vs2, d2, ds2, p2, q2, rfl, rfl, rfl, h2, r2⟩ := trodAll_cons r1
  obtain ⟨v3, vs3, d3, ds3, p3, q3, rfl, rfl, rfl, h3, r3⟩ := trodAll_cons r2
  obtain ⟨v4, vs4, d4, ds4, p4, q4, rfl, rfl, rfl, h4, r4⟩ := trodAll_cons r3
  obtain ⟨rfl, rfl, rfl⟩ := trodAll_nil r4
  obtain rfl : args = #[v0, v1, v2, v3, v4] := by cases args; simp_all
  obtain ⟨rfl, rfl⟩ := trodVars_none hV
  obtain ⟨s, rfl, rfl, rfl, hsz⟩ := open_string Try.underlying9 (hval 0 9 v0 rfl rfl) h0
  obtain ⟨a1, n1, c1, rfl⟩ := okWide_slice Try.underlying22 (hval 1 22 v1 rfl rfl)
  have k1 := h1
  have lt1 : ∀ x ∈ p1, x.block < W.heap.size := by obtain ⟨m, hm⟩ := k1; exact DataW.trod_lt m _ _ _ hm
  obtain ⟨a2, n2, c2, rfl⟩ := okWide_slice Try.underlying23 (hval 2 23 v2 rfl rfl)
  have k2 := h2
  have lt2 : ∀ x ∈ p2, x.block < W.heap.size := by obtain ⟨m, hm⟩ := k2; exact DataW.trod_lt m _ _ _ hm
  obtain ⟨a3, n3, c3, rfl⟩ := okWide_slice Try.underlying24 (hval 3 24 v3 rfl rfl)
  have k3 := h3
  have lt3 : ∀ x ∈ p3, x.block < W.heap.size := by obtain ⟨m, hm⟩ := k3; exact DataW.trod_lt m _ _ _ hm
  obtain ⟨a4, n4, c4, rfl⟩ := okWide_slice Try.underlying23 (hval 4 23 v4 rfl rfl)
  have k4 := h4
  have lt4 : ∀ x ∈ p4, x.block < W.heap.size := by obtain ⟨m, hm⟩ := k4; exact DataW.trod_lt m _ _ _ hm
  obtain ⟨u1, h1⟩ := h1
  obtain ⟨u2, h2⟩ := h2
  obtain ⟨u3, h3⟩ := h3
  obtain ⟨u4, h4⟩ := h4
  simp only [Value.cells] at h1 h2 h3 h4
  obtain ⟨_, f1, g1⟩ := view_bytes h1
  obtain ⟨m2, f2, g2, _⟩ := view_strings h2
  obtain ⟨m3, pp, sa, sn, sc, fb, g3, g3p, g3s⟩ := view_targets h3
  obtain ⟨m4, f4, g4, z4⟩ := view_strings h4
  clear hA0 hval0
  unfold maxLen at m2 m3 m4
  refine (main_walk s a1 n1 c1 a2 n2 c2 a3 n3 c3 a4 n4 c4 f1 f2 f4 pp sa sn sc fb W m2 m3 m4 g1 g2 g3 g3p g3s g4 z4).mono fun e W' ⟨he, S⟩ => ?_
  subst he
  have bel : Below W.heap.size W W' := ⟨S.os, S.tape, S.output, S.size, S.block⟩
  exact ⟨_, rfl, _, _, _, [], _, [], hW', trodAll_mk1 (shut_bool Try.underlying4 _), (trodAll_cons_mk (shut_string Try.underlying9 hsz) (trodAll_cons_mk (Below.trod laidOut (by kernel_rfl) (of_decide_eq_true (by kernel_rfl)) k1 bel lt1) (trodAll_cons_mk (Below.trod laidOut (by kernel_rfl) (of_decide_eq_true (by kernel_rfl)) k2 bel lt2) (trodAll_cons_mk (Below.trod laidOut (by kernel_rfl) (of_decide_eq_true (by kernel_rfl)) k3 bel lt3) (trodAll_cons_mk (Below.trod laidOut (by kernel_rfl) (of_decide_eq_true (by kernel_rfl)) k4 bel lt4) trodAll_mk0))))), rfl, bel.frame _, fun h => by cases h⟩

theorem over : Rows.fnDisallowedDeviceNoneWhenAllNamedRow.holds Try.pinned (OpenSpec.ofChange Rows.fnDisallowedDeviceNoneWhenAllNamedSpec) :=
  OpenClaim.holds_of_wide 4 Try.f4 rfl rfl rfl rfl rfl rfl rfl ⟨rfl, rfl, rfl, rfl, rfl⟩ rfl rfl rfl rfl rfl (by kernel_rfl) Try.func4 (by kernel_rfl)
    (of_decide_eq_true (by kernel_rfl)) (by unfold Func.isWrapper; first | (rw [if_pos (by decide +kernel)]; kernel_rfl) | (rw [if_neg (by decide +kernel)]; exact ⟨rfl, rfl⟩))
    (fun os started H enc _ => lifted os started H enc)

/-- THE STATEMENT. -/
theorem fnDisallowedDeviceNoneWhenAllNamed_proved : Rows.FnDisallowedDeviceNoneWhenAllNamedSaid := over
#print axioms fnDisallowedDeviceNoneWhenAllNamed_proved
end Go.Proofs.Qxb6601690a
