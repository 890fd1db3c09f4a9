import Derived.Test.Qxb6003683aBase
import Derived.Test.Qxb6003683aPlain
namespace Go.Proofs.Qxb6003683a
open Go.RowKit
open Tab (nx pos dst cnt WF)

theorem mask_mod {c : Nat} {sh : Int} (h : IsC c sh) (n : Int) : bits .and .i64 n ((c : Int) - 1) = n % (c : Int) := by
  have key : ∀ (m : Nat) (K : Nat), (BitVec.ofInt 64 (m : Int)).toNat = 2 ^ K - 1 → (BitVec.ofInt 64 n &&& BitVec.ofInt 64 (m : Int)).toNat = (n % ((2 ^ 64 : Nat) : Int)).toNat % 2 ^ K := by
    intro m K hm
    rw [BitVec.toNat_and, BitVec.toNat_ofInt, hm, Nat.and_two_pow_sub_one_eq_mod]
  rcases h with ⟨rfl, rfl⟩ | ⟨rfl, rfl⟩ | ⟨rfl, rfl⟩ | ⟨rfl, rfl⟩ | ⟨rfl, rfl⟩ | ⟨rfl, rfl⟩ | ⟨rfl, rfl⟩ | ⟨rfl, rfl⟩
  · show IntKind.i64.wrap ((BitVec.ofInt 64 n &&& BitVec.ofInt 64 ((7 : Nat) : Int)).toNat : Nat) = _
    rw [key 7 3 (by decide), IntKind.wrap_i64]; omega
  · show IntKind.i64.wrap ((BitVec.ofInt 64 n &&& BitVec.ofInt 64 ((15 : Nat) : Int)).toNat : Nat) = _
    rw [key 15 4 (by decide), IntKind.wrap_i64]; omega
  · show IntKind.i64.wrap ((BitVec.ofInt 64 n &&& BitVec.ofInt 64 ((31 : Nat) : Int)).toNat : Nat) = _
    rw [key 31 5 (by decide), IntKind.wrap_i64]; omega
  · show IntKind.i64.wrap ((BitVec.ofInt 64 n &&& BitVec.ofInt 64 ((63 : Nat) : Int)).toNat : Nat) = _
    rw [key 63 6 (by decide), IntKind.wrap_i64]; omega
  · show IntKind.i64.wrap ((BitVec.ofInt 64 n &&& BitVec.ofInt 64 ((127 : Nat) : Int)).toNat : Nat) = _
    rw [key 127 7 (by decide), IntKind.wrap_i64]; omega
  · show IntKind.i64.wrap ((BitVec.ofInt 64 n &&& BitVec.ofInt 64 ((255 : Nat) : Int)).toNat : Nat) = _
    rw [key 255 8 (by decide), IntKind.wrap_i64]; omega
  · show IntKind.i64.wrap ((BitVec.ofInt 64 n &&& BitVec.ofInt 64 ((511 : Nat) : Int)).toNat : Nat) = _
    rw [key 511 9 (by decide), IntKind.wrap_i64]; omega
  · show IntKind.i64.wrap ((BitVec.ofInt 64 n &&& BitVec.ofInt 64 ((1023 : Nat) : Int)).toNat : Nat) = _
    rw [key 1023 10 (by decide), IntKind.wrap_i64]; omega

theorem mask_nx {c : Nat} {sh : Int} (h : IsC c sh) {i : Nat} (hi : i < c) : bits .and .i64 ((i : Int) + 1) ((c : Int) - 1) = (nx c i : Nat) := by
  rw [mask_mod h]
  unfold nx
  split
  · rw [Int.emod_eq_of_lt (by omega) (by omega)]; omega
  · have : (i : Int) + 1 = (c : Int) := by omega
    rw [this, Int.emod_self]; rfl

theorem mask_dst {c : Nat} {sh : Int} (h : IsC c sh) {i j : Nat} (hi : i < c) (hj : j < c) : bits .and .i64 ((j : Int) - (i : Int)) ((c : Int) - 1) = (dst c i j : Nat) := by
  rw [mask_mod h]
  unfold dst
  split
  · rw [Int.emod_eq_of_lt (by omega) (by omega)]; omega
  · have e : ((j : Int) - (i : Int)) % (c : Int) = ((j : Int) - (i : Int) + (c : Int)) % (c : Int) := by rw [Int.add_emod_right]
    rw [e, Int.emod_eq_of_lt (by omega) (by omega)]; omega

theorem IsC.exp {c : Nat} {sh : Int} (h : IsC c sh) : ∃ K : Nat, K ≤ 10 ∧ c = 2 ^ K ∧ sh = 64 - (K : Int) := by
  rcases h with ⟨rfl, rfl⟩ | ⟨rfl, rfl⟩ | ⟨rfl, rfl⟩ | ⟨rfl, rfl⟩ | ⟨rfl, rfl⟩ | ⟨rfl, rfl⟩ | ⟨rfl, rfl⟩ | ⟨rfl, rfl⟩
  · exact ⟨3, by omega, rfl, rfl⟩
  · exact ⟨4, by omega, rfl, rfl⟩
  · exact ⟨5, by omega, rfl, rfl⟩
  · exact ⟨6, by omega, rfl, rfl⟩
  · exact ⟨7, by omega, rfl, rfl⟩
  · exact ⟨8, by omega, rfl, rfl⟩
  · exact ⟨9, by omega, rfl, rfl⟩
  · exact ⟨10, by omega, rfl, rfl⟩

theorem IsC.pow {c : Nat} {sh : Int} (h : IsC c sh) : bits .and .i64 (c : Int) ((c : Int) - 1) = 0 := by
  rw [mask_mod h, Int.emod_self]

/-- What mapWellFormed asks. -/
def Good (c cv : Nat) (n sh : Int) (I : Nat → Int) : Prop := cv = c ∧ IsC c sh ∧ WF c (homeN sh) n I

/-- The first loop's finds behind k rounds. -/
def Ok1 (I : Nat → Int) (c k : Nat) : Prop := (∀ j, j < k → I j ≠ -1 → 0 ≤ I j) ∧ ∀ j, j < k → I j ≠ -1 → ∀ i, j < i → i < c → I i ≠ I j
/-- The second loop's. -/
def Ok3 (I : Nat → Int) (c : Nat) (H : Int → Nat) (k : Nat) : Prop := ∀ j, j < k → I j ≠ -1 → ∀ d, d < dst c (H (I j)) j → I (pos c (H (I j)) d) ≠ -1

theorem Ok1.zero (I : Nat → Int) (c : Nat) : Ok1 I c 0 := ⟨fun _ hj => absurd hj (Nat.not_lt_zero _), fun _ hj => absurd hj (Nat.not_lt_zero _)⟩
theorem Ok1.skip {I : Nat → Int} {c k : Nat} (h : Ok1 I c k) (e : I k = -1) : Ok1 I c (k + 1) := by
  refine ⟨fun j hj hne => ?_, fun j hj hne => ?_⟩
  · by_cases ek : j = k
    · subst ek; exact absurd e hne
    · exact h.1 j (by omega) hne
  · by_cases ek : j = k
    · subst ek; exact absurd e hne
    · exact h.2 j (by omega) hne
theorem Ok1.step {I : Nat → Int} {c k : Nat} (h : Ok1 I c k) (e0 : 0 ≤ I k) (e1 : ∀ i, k < i → i < c → I i ≠ I k) : Ok1 I c (k + 1) := by
  refine ⟨fun j hj hne => ?_, fun j hj hne => ?_⟩
  · by_cases ek : j = k
    · subst ek; exact e0
    · exact h.1 j (by omega) hne
  · by_cases ek : j = k
    · subst ek; exact e1
    · exact h.2 j (by omega) hne
theorem Ok3.zero (I : Nat → Int) (c : Nat) (H : Int → Nat) : Ok3 I c H 0 := fun _ hj => absurd hj (Nat.not_lt_zero _)
theorem Ok3.step {I : Nat → Int} {c k : Nat} {H : Int → Nat} (h : Ok3 I c H k) (e : I k ≠ -1 → ∀ d, d < dst c (H (I k)) k → I (pos c (H (I k)) d) ≠ -1) : Ok3 I c H (k + 1) := by
  intro j hj hne
  by_cases ek : j = k
  · subst ek; exact e hne
  · exact h j (by omega) hne
theorem cnt_hit {I : Nat → Int} {k : Nat} (h : I k ≠ -1) : cnt I (k + 1) = cnt I k + 1 := by rw [cnt, if_neg h]
theorem cnt_miss {I : Nat → Int} {k : Nat} (h : I k = -1) : cnt I (k + 1) = cnt I k := by rw [cnt, if_pos h, Nat.add_zero]


theorem iff_no {Q : Prop} (h : ¬ Q) : BoolIff Q (.returned (.bool false)) := ⟨false, rfl, Iff.intro (fun e => by simp at e) (fun g => absurd g h)⟩
theorem iff_yes {Q : Prop} (h : Q) : BoolIff Q (.returned (.bool true)) := ⟨true, rfl, ⟨fun _ => h, fun _ => rfl⟩⟩
section
variable {c : Nat} {n sh : Int} {I : Nat → Int} {k : Nat}
theorem no_ok (hk : k < c) (h1 : I k ≠ -1) (h2 : I k < 0) : ¬ Good c c n sh I := fun g => by have := g.2.2.ok k hk h1; omega
theorem no_dist {i : Nat} (hk : k < c) (h1 : I k ≠ -1) (h2 : k < i) (h3 : i < c) (e : I i = I k) : ¬ Good c c n sh I := fun g => g.2.2.dist k hk h1 i h2 h3 e
theorem no_num (h : (cnt I c : Int) ≠ n) : ¬ Good c c n sh I := fun g => h g.2.2.num
theorem no_half (h : (c : Int) < 2 * (cnt I c : Int)) : ¬ Good c c n sh I := fun g => by have := g.2.2.half; omega
theorem no_chain {d : Nat} (hk : k < c) (h1 : I k ≠ -1) (h2 : d < dst c (homeN sh (I k)) k) (e : I (pos c (homeN sh (I k)) d) = -1) : ¬ Good c c n sh I := fun g => g.2.2.chain k hk h1 d h2 e
theorem yes_all (hC : IsC c sh) (h1 : Ok1 I c c) (h2 : (cnt I c : Int) = n) (h3 : 2 * cnt I c ≤ c) (h4 : Ok3 I c (homeN sh) c) : Good c c n sh I := ⟨rfl, hC, h1.1, h1.2, h2, h3, h4⟩
end

set_option maxHeartbeats 2000000 in
set_option maxRecDepth 100000 in
theorem wf_main (M a : Nat) (va : Option Addr) (c : Nat) (n sh : Int) (I : Nat → Int) (w : World) (hm : w.rowIs M 47 4 (mf (some ⟨a, 0, none⟩) va c c n sh)) (hi : w.rowIs a 2 c (fun i => .int .i64 (I i))) (hC : IsC c sh) :
    Calls Try.prog 15 #[.pointer (some ⟨M, 0, none⟩)] w fun e w' => BoolIff (Good c c n sh I) e ∧ w.Since w.heap.size w' := by
  have hb := hC.bd
  obtain ⟨K, hK, hcK, hsK⟩ := hC.exp
  have h8 : 8 ≤ c := hb.2.2.1
  have h1024 : c ≤ 1024 := hb.2.2.2
  have HM := hide hm
  have HI := hide hi
  have HC := hide hC
  have HK := hide hcK
  have HS := hide hsK
  clear hm hi hC hb hcK hsK
  have t1 : ((c : Int) != (c : Int)) = false := by simp
  have t2 : decide ((c : Int) < 8) = false := by simp; omega
  have t3 : decide ((1024 : Int) < (c : Int)) = false := by simp; omega
  go_enter Try.func15, Try.ntmps15
  go_wp2_with fail
  refine (cells_any M _ va c c n sh _ (unhide HM)).mono ?_
  rintro e w1 ⟨rfl, S1⟩
  go_wp2_with fail
  refine (log2_any c K _ hK (unhide HK) h8 h1024 (unhide HC).pow).mono ?_
  rintro e w2 ⟨rfl, hw2⟩
  subst w2
  have hsh : (sh != 64 - (K : Int)) = false := by rw [unhide HS]; simp
  have hK0 : (K : Int) ≤ 10 := by omega
  go_wp2
  clear hsh HS t1 t2 t3
  go_loopg [10, 11] c (fun g s10 s11 wr => ∃ k : Nat, k ≤ c ∧ g = c - k ∧ s11 = .int .i64 k ∧ s10 = .int .i64 (cnt I k) ∧ Hid (Ok1 I c k) ∧ w.Since w.heap.size wr)
  case atStart => exact ⟨0, Nat.zero_le _, rfl, rfl, rfl, Ok1.zero I c, S1⟩
  case round =>
    obtain ⟨k, hk, rfl, rfl, rfl, H1, S⟩ := hrel
    clear S1
    by_cases hlt : k < c
    · have c1 : wr.cell? ⟨a, k, none⟩ = some (.int .i64 (I k)) := (since_row S (unhide HI)).cell hlt
      have hcl : cnt I k ≤ k := Tab.cnt_le I k
      by_cases hne : I k = -1
      · have t4 : (I k == -1) = true := by simp [hne]
        have HN := hide hne
        clear hne
        go_wp2
        go_roundg (c - (k + 1))
        case measure => go_light; omega
        case rel => go_light; exact ⟨k + 1, by omega, rfl, by go_num, by rw [cnt_miss (unhide HN)], (unhide H1).skip (unhide HN), S⟩
      · have t4 : (I k == -1) = false := by simp [hne]
        have HN := hide hne
        clear hne
        by_cases hneg : I k < 0
        · go_wp2
          go_ret
          exact ⟨iff_no (no_ok hlt (unhide HN) hneg), S⟩
        · go_wp2
          go_loopg [13] (c - (k + 1)) (fun g s13 wx => ∃ i : Nat, k < i ∧ i ≤ c ∧ g = c - i ∧ s13 = .int .i64 i ∧ Hid (∀ i', k < i' → i' < i → I i' ≠ I k) ∧ wx = wr)
          case atStart => exact ⟨k + 1, by omega, by omega, rfl, by go_num, fun i' h1 h2 => by omega, rfl⟩
          case round =>
            obtain ⟨i, hki, hic, rfl, rfl, H2, rfl⟩ := hrel
            by_cases hil : i < c
            · have c2 : wr.cell? ⟨a, i, none⟩ = some (.int .i64 (I i)) := (since_row S (unhide HI)).cell hil
              by_cases he : I i = I k
              · have t5 : (I i == I k) = true := by simp [he]
                have HE := hide he
                clear he
                go_wp2
                go_ret
                exact ⟨iff_no (no_dist hlt (unhide HN) hki hil (unhide HE)), S⟩
              · have t5 : (I i == I k) = false := by simp [he]
                have HE := hide he
                clear he
                go_wp2
                go_roundg (c - (i + 1))
                case measure => go_light; omega
                case rel =>
                  go_light
                  refine ⟨i + 1, by omega, by omega, rfl, by go_num, fun i' h1 h2 => ?_, rfl⟩
                  by_cases ei : i' = i
                  · subst ei; exact unhide HE
                  · exact unhide H2 i' h1 (by omega)
            · obtain rfl : i = c := by omega
              go_wp2
              go_roundg (i - (k + 1))
              case measure => go_light; omega
              case rel =>
                go_light
                exact ⟨k + 1, by omega, rfl, by go_num, by rw [cnt_hit (unhide HN)]; go_num, (unhide H1).step (by omega) (unhide H2), S⟩
    · obtain rfl : k = c := by omega
      have hcl : cnt I k ≤ k := Tab.cnt_le I k
      by_cases hnum : (cnt I k : Int) = n
      rotate_left
      · have t6 : ((cnt I k : Int) != n) = true := by simpa using hnum
        have HN := hide hnum
        clear hnum
        go_wp2
        go_ret
        exact ⟨iff_no (no_num (unhide HN)), S⟩
      subst hnum
      have t6 : ((cnt I k : Int) != (cnt I k : Int)) = false := by simp
      by_cases hhalf : (k : Int) < 2 * (cnt I k : Int)
      · go_wp2
        go_ret
        exact ⟨iff_no (no_half hhalf), S⟩
      go_wp2
      clear t6
      go_loopg [15] k (fun g s15 wx => ∃ j : Nat, j ≤ k ∧ g = k - j ∧ s15 = .int .i64 j ∧ Hid (Ok3 I k (homeN sh) j) ∧ w.Since w.heap.size wx)
      case atStart => exact ⟨0, Nat.zero_le _, rfl, rfl, Ok3.zero I k _, S⟩
      case round =>
        obtain ⟨j, hj, rfl, rfl, H3, S3⟩ := hrel
        clear S
        by_cases hjk : j < k
        · have c1 : wr.cell? ⟨a, j, none⟩ = some (.int .i64 (I j)) := (since_row S3 (unhide HI)).cell hjk
          by_cases hne : I j = -1
          · have t4 : (I j == -1) = true := by simp [hne]
            have HN := hide hne
            clear hne
            go_wp2
            go_roundg (k - (j + 1))
            case measure => go_light; omega
            case rel => go_light; exact ⟨j + 1, by omega, rfl, by go_num, (unhide H3).step (fun h => absurd (unhide HN) h), S3⟩
          · have t4 : (I j == -1) = false := by simp [hne]
            have HN := hide hne
            clear hne
            go_wp2_with fail
            refine (maphome_any M _ va k k k _ sh (I j) _ (since_row S3 (unhide HM)) (unhide HC)).mono ?_
            rintro e w3 ⟨rfl, hw3⟩
            subst w3
            have hhl : homeN sh (I j) < k := (home_num (unhide HC) (I j)).2
            generalize hh : homeN sh (I j) = h at hhl ⊢
            have HH := hide hh
            clear hh
            have t7 : decide ((h : Int) < 0) = false := by simp
            have hdl : dst k h j < k := Tab.dst_lt hhl hjk
            go_wp2
            go_loopg [17] (dst k h j) (fun g s17 wx => ∃ d : Nat, d ≤ dst k h j ∧ g = dst k h j - d ∧ s17 = .int .i64 (pos k h d : Nat) ∧ Hid (∀ d', d' < d → I (pos k h d') ≠ -1) ∧ wx = wr)
            case atStart => exact ⟨0, Nat.zero_le _, rfl, by rw [Tab.pos_zero hhl], fun d' hd' => absurd hd' (Nat.not_lt_zero _), rfl⟩
            case round =>
              obtain ⟨d, hd, rfl, rfl, H4, rfl⟩ := hrel
              by_cases hdd : d < dst k h j
              · have hpl : pos k h d < k := Tab.pos_lt hhl (by omega)
                have hpne : pos k h d ≠ j := fun e => by
                  have := Tab.dst_pos (d := d) hhl (by omega)
                  rw [e] at this
                  omega
                have hnx := mask_nx (unhide HC) hpl
                rw [Tab.nx_pos hhl (by omega)] at hnx
                have c2 : wr.cell? ⟨a, pos k h d, none⟩ = some (.int .i64 (I (pos k h d))) := (since_row S3 (unhide HI)).cell hpl
                by_cases hne2 : I (pos k h d) = -1
                · have t8 : (I (pos k h d) == -1) = true := by simp [hne2]
                  have HN2 := hide hne2
                  clear hne2
                  generalize hq : pos k h d = q at *
                  have HQ := hide hq
                  clear hq
                  have t9 : ((q : Int) != (j : Int)) = true := by simp; omega
                  go_wp2
                  go_ret
                  exact ⟨iff_no (no_chain hjk (unhide HN) (by rw [unhide HH]; exact hdd) (by rw [unhide HH, unhide HQ]; exact unhide HN2)), S3⟩
                · have t8 : (I (pos k h d) == -1) = false := by simp [hne2]
                  have HN2 := hide hne2
                  clear hne2
                  generalize hq : pos k h d = q at *
                  have HQ := hide hq
                  clear hq
                  have t9 : ((q : Int) != (j : Int)) = true := by simp; omega
                  go_wp2
                  go_roundg (dst k h j - (d + 1))
                  case measure => go_light; omega
                  case rel =>
                    go_light
                    refine ⟨d + 1, by omega, rfl, rfl, fun d' hd' => ?_, rfl⟩
                    by_cases ed : d' = d
                    · subst ed; rw [unhide HQ]; exact unhide HN2
                    · exact unhide H4 d' (by omega)
              · obtain rfl : d = dst k h j := by omega
                have hpj : pos k h (dst k h j) = j := Tab.pos_dst hhl hjk
                rw [hpj]
                clear hpj
                have t9 : ((j : Int) != (j : Int)) = false := by simp
                go_wp2
                go_roundg (k - (j + 1))
                case measure => go_light; omega
                case rel =>
                  go_light
                  exact ⟨j + 1, by omega, rfl, by go_num, (unhide H3).step (fun _ => by rw [unhide HH]; exact unhide H4), S3⟩
        · obtain rfl : j = k := by omega
          go_wp2
          go_ret
          exact ⟨iff_yes (yes_all (unhide HC) (unhide H1) rfl (by omega) (unhide H3)), S3⟩

set_option maxHeartbeats 1000000 in
set_option maxRecDepth 100000 in
/-- Wrong lengths. -/
theorem wf_len (M : Nat) (ia va : Option Addr) (c cv : Nat) (n sh : Int) (w : World) (hm : w.rowIs M 47 4 (mf ia va c cv n sh)) (h : c ≠ cv ∨ c < 8 ∨ 1024 < c) :
    Calls Try.prog 15 #[.pointer (some ⟨M, 0, none⟩)] w fun e w' => e = .returned (.bool false) ∧ w.Since w.heap.size w' := by
  have HM := hide hm
  clear hm
  by_cases h1 : c = cv
  · subst h1
    have t1 : ((c : Int) != (c : Int)) = false := by simp
    by_cases h2 : c < 8
    · clear h
      go_enter Try.func15, Try.ntmps15
      go_wp2_with fail
      refine (cells_any M ia va c c n sh _ (unhide HM)).mono ?_
      rintro e w1 ⟨rfl, S1⟩
      clear HM
      go_wp2
      go_ret
      exact ⟨rfl, S1⟩
    · have h3 : 1024 < c := by omega
      clear h
      go_enter Try.func15, Try.ntmps15
      go_wp2_with fail
      refine (cells_any M ia va c c n sh _ (unhide HM)).mono ?_
      rintro e w1 ⟨rfl, S1⟩
      clear HM
      go_wp2
      go_ret
      exact ⟨rfl, S1⟩
  · have t1 : ((c : Int) != (cv : Int)) = true := by simp; omega
    clear h
    go_enter Try.func15, Try.ntmps15
    go_wp2_with fail
    refine (cells_any M ia va c cv n sh _ (unhide HM)).mono ?_
    rintro e w1 ⟨rfl, S1⟩
    clear HM
    go_wp2
    go_ret
    exact ⟨rfl, S1⟩

set_option maxHeartbeats 1000000 in
set_option maxRecDepth 100000 in
/-- Not a power of two. -/
theorem wf_pow (M : Nat) (ia va : Option Addr) (c : Nat) (n sh : Int) (w : World) (hm : w.rowIs M 47 4 (mf ia va c c n sh)) (h8 : 8 ≤ c) (h1024 : c ≤ 1024) (hp : ¬ bits .and .i64 (c : Int) ((c : Int) - 1) = 0) :
    Calls Try.prog 15 #[.pointer (some ⟨M, 0, none⟩)] w fun e w' => e = .returned (.bool false) ∧ w.Since w.heap.size w' := by
  have HM := hide hm
  have HP := hide hp
  clear hm hp
  have t1 : ((c : Int) != (c : Int)) = false := by simp
  have t2 : decide ((c : Int) < 8) = false := by simp; omega
  have t3 : decide ((1024 : Int) < (c : Int)) = false := by simp; omega
  go_enter Try.func15, Try.ntmps15
  go_wp2_with fail
  refine (cells_any M ia va c c n sh _ (unhide HM)).mono ?_
  rintro e w1 ⟨rfl, S1⟩
  go_wp2_with fail
  refine (log2_no c _ h8 h1024 (unhide HP)).mono ?_
  rintro e w2 ⟨rfl, hw2⟩
  subst w2
  clear HM HP t1 t2 t3
  go_wp2
  go_ret
  exact ⟨rfl, S1⟩

set_option maxHeartbeats 1000000 in
set_option maxRecDepth 100000 in
/-- A wrong shift. -/
theorem wf_shift (M : Nat) (ia va : Option Addr) (c K : Nat) (n sh : Int) (w : World) (hm : w.rowIs M 47 4 (mf ia va c c n sh)) (h8 : 8 ≤ c) (h1024 : c ≤ 1024) (hp : bits .and .i64 (c : Int) ((c : Int) - 1) = 0) (hK : K ≤ 10) (hc : c = 2 ^ K) (hs : sh ≠ 64 - (K : Int)) :
    Calls Try.prog 15 #[.pointer (some ⟨M, 0, none⟩)] w fun e w' => e = .returned (.bool false) ∧ w.Since w.heap.size w' := by
  have HM := hide hm
  have HP := hide hp
  have HC := hide hc
  have hsh : (sh != 64 - (K : Int)) = true := by simpa using hs
  clear hm hp hc hs
  have t1 : ((c : Int) != (c : Int)) = false := by simp
  have t2 : decide ((c : Int) < 8) = false := by simp; omega
  have t3 : decide ((1024 : Int) < (c : Int)) = false := by simp; omega
  go_enter Try.func15, Try.ntmps15
  go_wp2_with fail
  refine (cells_any M ia va c c n sh _ (unhide HM)).mono ?_
  rintro e w1 ⟨rfl, S1⟩
  go_wp2_with fail
  refine (log2_any c K _ hK (unhide HC) h8 h1024 (unhide HP)).mono ?_
  rintro e w2 ⟨rfl, hw2⟩
  subst w2
  have hK0 : (K : Int) ≤ 10 := by omega
  clear HM HP HC t1 t2 t3
  go_wp2
  go_ret
  exact ⟨rfl, S1⟩

/-- mapWellFormed, whatever the table. -/
theorem wf_any (M a : Nat) (ia va : Option Addr) (c cv : Nat) (n sh : Int) (I : Nat → Int) (w : World) (hm : w.rowIs M 47 4 (mf ia va c cv n sh)) (hi : 0 < c → ia = some ⟨a, 0, none⟩ ∧ w.rowIs a 2 c (fun i => .int .i64 (I i))) :
    Calls Try.prog 15 #[.pointer (some ⟨M, 0, none⟩)] w fun e w' => BoolIff (Good c cv n sh I) e ∧ w.Since w.heap.size w' := by
  by_cases hl : c ≠ cv ∨ c < 8 ∨ 1024 < c
  · refine (wf_len M ia va c cv n sh w hm hl).mono ?_
    rintro e w' ⟨rfl, S⟩
    refine ⟨iff_no fun g => ?_, S⟩
    have h1 := g.1
    have h2 := g.2.1.bd
    omega
  obtain rfl : c = cv := by omega
  have h8 : 8 ≤ c := by omega
  have h1024 : c ≤ 1024 := by omega
  by_cases hp : bits .and .i64 (c : Int) ((c : Int) - 1) = 0
  · have hcs := (pow2_iff c (by omega) h8).1 hp
    obtain ⟨K, hK, hcK, hIs⟩ : ∃ K : Nat, K ≤ 10 ∧ c = 2 ^ K ∧ IsC c (64 - (K : Int)) := by
      rcases hcs with h | h | h | h | h | h | h | h
      · exact ⟨3, by omega, h, by unfold IsC; omega⟩
      · exact ⟨4, by omega, h, by unfold IsC; omega⟩
      · exact ⟨5, by omega, h, by unfold IsC; omega⟩
      · exact ⟨6, by omega, h, by unfold IsC; omega⟩
      · exact ⟨7, by omega, h, by unfold IsC; omega⟩
      · exact ⟨8, by omega, h, by unfold IsC; omega⟩
      · exact ⟨9, by omega, h, by unfold IsC; omega⟩
      · exact ⟨10, by omega, h, by unfold IsC; omega⟩
    by_cases hs : sh = 64 - (K : Int)
    · subst hs
      obtain ⟨rfl, hr⟩ := hi (by omega)
      exact wf_main M a va c n _ I w hm hr hIs
    · refine (wf_shift M ia va c K n sh w hm h8 h1024 hp hK hcK hs).mono ?_
      rintro e w' ⟨rfl, S⟩
      refine ⟨iff_no fun g => ?_, S⟩
      have h2 := g.2.1
      unfold IsC at h2 hIs
      omega
  · refine (wf_pow M ia va c n sh w hm h8 h1024 hp).mono ?_
    rintro e w' ⟨rfl, S⟩
    exact ⟨iff_no fun g => hp g.2.1.pow, S⟩
end Go.Proofs.Qxb6003683a
