/-
  A part of the proof (my own): of the texts that the claim's last text rests on: parts P14.
-/
import Derived.Test.YtigjokkakcmmdaaGreatDoorT21
set_option linter.unusedSimpArgs false
set_option linter.unusedVariables false
section
namespace Go.Tb
open Go Go.Proofs
set_option maxRecDepth 20000
attribute [local irreducible] tg4 madeC updB attB inChk
section
variable {c : Nat → Int} {f t : Nat} {B : Brd} {D : Pd} {p : Int}
theorem one_to {x : Mv} (h : x ∈ oneL D B p f t) : x.s1 = f ∧ x.s2 = t := by
  unfold oneL at h
  split at h
  · cases h
  · split at h
    · obtain ⟨q, _, h⟩ := (fK_mem 4).1 h
      rw [(keepM_mem.1 h).1]; exact ⟨rfl, rfl⟩
    · rw [(keepM_mem.1 h).1]; exact ⟨rfl, rfl⟩
theorem keep_nd (m : Mv) : ((keepM m).map toM).Nodup := by unfold keepM; split <;> simp
theorem one_nd : ((oneL D B p f t).map toM).Nodup := by
  unfold oneL
  split
  · simp
  · split
    · refine nd_fK 4 (fun k _ => keep_nd _) fun k _ j _ x hx y hy e => ?_
      rw [(keepM_mem.1 hx).1, (keepM_mem.1 hy).1] at e
      have : ((k : Int) + 2) = (j : Int) + 2 := congrArg (fun m : M3 => m.2.2) e
      omega
    · exact keep_nd _
theorem from_to {x : Mv} (h : x ∈ fromL D B p f) : x.s1 = f ∧ ¬ getP B p &&& sqB (f : Int) = 0#64 := by
  unfold fromL at h
  split at h
  · cases h
  · rename_i hg
    obtain ⟨t, _, h⟩ := (fK_mem 64).1 h
    exact ⟨(one_to h).1, hg⟩
theorem from_nd : ((fromL D B p f).map toM).Nodup := by
  unfold fromL
  split
  · simp
  · refine nd_fK 64 (fun k _ => one_nd) fun k _ j _ x hx y hy e => ?_
    have e1 := (one_to hx).2
    have e2 := (one_to hy).2
    have : x.s2 = y.s2 := congrArg (fun m : M3 => m.2.1) e
    omega
theorem std_nd (hr : RepB c B) : ((stdL D B).map toM).Nodup := by
  unfold stdL stdK
  refine nd_fK 12 (fun k _ => ?_) fun k hk j hj x hx y hy e => ?_
  · unfold pieL
    split
    · refine nd_fK 64 (fun k _ => from_nd) fun k _ j _ x hx y hy e => ?_
      have e1 := (from_to hx).1
      have e2 := (from_to hy).1
      have : x.s1 = y.s1 := congrArg (fun m : M3 => m.1) e
      omega
    · simp
  · unfold pieL at hx hy
    split at hx
    · split at hy
      · obtain ⟨f, hf, hx⟩ := (fK_mem 64).1 hx
        obtain ⟨g, hg, hy⟩ := (fK_mem 64).1 hy
        obtain ⟨e1, b1⟩ := from_to hx
        obtain ⟨e2, b2⟩ := from_to hy
        have h3 : x.s1 = y.s1 := congrArg (fun m : M3 => m.1) e
        have h4 : f = g := by omega
        subst h4
        rw [and_z hf, occ_get hr (by omega) hf, decide_eq_true_eq] at b1 b2
        omega
      · cases hy
    · cases hx
theorem std_perm (hr : RepD c D B) (hi : InvC c) : ((stdL D B).map toM).Perm ((pseuK c 64).filter (legB c)) := by
  refine (List.perm_ext_iff_of_nodup (std_nd hr.b) (List.Nodup.sublist List.filter_sublist (pseuK_nd hi 64 (Nat.le_refl _)))).2 fun m => ?_
  rw [std_iff hr hi, List.mem_filter, pseu_iff hi]
end
section
variable {c : Nat → Int} {r : Nat} {B : Brd} {D : Pd}
structure MvK2 (c : Nat → Int) (r : Nat) : Prop extends MvK c r where
  btw : ∀ j : Nat, Go.Tb.btw (homeK r) (homeR r) j → c j = 0
theorem home_nat (h : r < 4) : homeK r = casF r ∧ homeR r = casR r ∧ homeK r + cW r = casM r ∧ homeK r + 2 * cW r = casT r := by
  have : r = 0 ∨ r = 1 ∨ r = 2 ∨ r = 3 := by omega
  rcases this with rfl | rfl | rfl | rfl <;> decide
theorem enemy_off (h : MvK2 c r) (hi : InvC c) {i : Nat} (hs : i = casF r ∨ i = casT r ∨ i = casR r ∨ i = casM r) : sideOf (c i) = c 64 ∨ c i = 0 := by
  have h64 := hi.turn
  rcases hs with rfl | rfl | rfl | rfl
  · left; rw [h.king]; unfold sideOf; split <;> omega
  · exact .inr h.to
  · left; rw [h.rook]; unfold sideOf; split <;> omega
  · exact .inr h.mid
theorem cas_off (h : MvK c r) (hi : InvC c) {i : Nat} (hi64 : i < 64) (hs : ¬ (i = casF r ∨ i = casT r ∨ i = casR r ∨ i = casM r)) : madeC c (casF r) (casT r) 0 i = c i := by
  rw [cells_K h hi hi64, if_neg (fun e => hs (by simp [e])), if_neg (fun e => hs (by simp [e])), if_neg (fun e => hs (by simp [e])), if_neg (fun e => hs (by simp [e]))]
theorem cas_on (h : MvK c r) (hi : InvC c) : madeC c (casF r) (casT r) 0 (casF r) = 0 ∧ madeC c (casF r) (casT r) 0 (casR r) = 0 ∧ madeC c (casF r) (casT r) 0 (casT r) = 1 + 6 * c 64 ∧ madeC c (casF r) (casT r) 0 (casM r) = 3 + 6 * c 64 := by
  obtain ⟨h1, h2, h3, h4, h5, h6, h7, h8, h9, h10, h11, h12, h13⟩ := cas_facts h.hr
  refine ⟨?_, ?_, ?_, ?_⟩
  · rw [cells_K h hi h1, if_neg h7, if_neg h6, if_neg h5, if_pos rfl]
  · rw [cells_K h hi h3, if_neg h10, if_pos rfl]
  · rw [cells_K h hi h2, if_neg h9, if_neg h8, if_pos rfl]; exact h.king
  · rw [cells_K h hi h4, if_pos rfl]
theorem cas_att (h : MvK2 c r) (hi : InvC c) : attB (madeC c (casF r) (casT r) 0) (casT r) (1 - c 64) = attB c (casT r) (1 - c 64) := by
  have h64 := hi.turn
  obtain ⟨h1, h2, h3, h4, h5, h6, h7, h8, h9, h10, h11, h12, h13⟩ := cas_facts h.hr
  obtain ⟨o1, o2, o3, o4⟩ := cas_on h.toMvK hi
  have hr4 : r = 0 ∨ r = 1 ∨ r = 2 ∨ r = 3 := by have := h.hr; omega
  have hking := h.king
  have hbt := h.btw
  have clr : ∀ i : Nat, i < 64 → ¬ (i = casF r ∨ i = casT r ∨ i = casR r ∨ i = casM r) → c i ≠ 0 → onRay i (casT r) → (clearP c i (casT r) (distOf i (casT r)) ↔ clearP (madeC c (casF r) (casT r) 0) i (casT r) (distOf i (casT r))) := by
    intro i hi64 hoff hne hray
    have hit : i ≠ casT r := fun e => hoff (by simp [e])
    by_cases hrow : i / 8 = casT r / 8
    · have hl : onL 0 i (casT r) = true := by simp [onL, hrow]
      have hb1 : onL 0 i (casF r) = true ∧ ((i < casF r ∧ casF r < casT r) ∨ (casT r < casF r ∧ casF r < i)) ∧ onL 0 i (casM r) = true ∧ ((i < casM r ∧ casM r < casT r) ∨ (casT r < casM r ∧ casM r < i)) := by
        simp only [onL, decide_eq_true_eq]
        rcases hr4 with rfl | rfl | rfl | rfl
        · simp only [show casF 0 = 4 from rfl, show casT 0 = 6 from rfl, show casR 0 = 7 from rfl, show casM 0 = 5 from rfl] at hoff hrow ⊢; omega
        · have hz : i ≠ 1 := by rintro rfl; exact hne (hbt 1 (by unfold btw homeK homeR atSq; decide))
          simp only [show casF 1 = 4 from rfl, show casT 1 = 2 from rfl, show casR 1 = 0 from rfl, show casM 1 = 3 from rfl] at hoff hrow ⊢; omega
        · simp only [show casF 2 = 60 from rfl, show casT 2 = 62 from rfl, show casR 2 = 63 from rfl, show casM 2 = 61 from rfl] at hoff hrow ⊢; omega
        · have hz : i ≠ 57 := by rintro rfl; exact hne (hbt 57 (by unfold btw homeK homeR atSq; decide))
          simp only [show casF 3 = 60 from rfl, show casT 3 = 58 from rfl, show casR 3 = 56 from rfl, show casM 3 = 59 from rfl] at hoff hrow ⊢; omega
      obtain ⟨b1, b2, b3, b4⟩ := hb1
      obtain ⟨k, k1, k2, k3⟩ := (ray_mem (u := casF r) (by decide) hi64 h2 hl hit).1 ⟨h1, b1, b2⟩
      obtain ⟨j, j1, j2, j3⟩ := (ray_mem (u := casM r) (by decide) hi64 h2 hl hit).1 ⟨h4, b3, b4⟩
      constructor
      · intro hc
        have := hc k k1 k2
        rw [← k3, Int.toNat_natCast, hking] at this; omega
      · intro hc
        have := hc j j1 j2
        rw [← j3, Int.toNat_natCast, o4] at this; omega
    · have hy : ∃ y, y < 4 ∧ onL y i (casT r) = true := by
        rcases hray with h0 | h0 | h0 | h0
        · exact ⟨1, by decide, onL_1.2 h0⟩
        · exact ⟨0, by decide, onL_0.2 h0⟩
        · exact ⟨2, by decide, onL_2.2 h0⟩
        · exact ⟨3, by decide, onL_3.2 h0⟩
      obtain ⟨y, hy4, hl⟩ := hy
      have hsame : ∀ k : Nat, 1 ≤ k → k < distOf i (casT r) → madeC c (casF r) (casT r) 0 ((i : Int) + k * wayOf i (casT r)).toNat = c ((i : Int) + k * wayOf i (casT r)).toNat := by
        intro k k1 k2
        have hrr := ray (i := i) (j := casT r) (by omega) (by omega) hray (by omega) k (by omega)
        obtain ⟨u, hu⟩ : ∃ u : Nat, (u : Int) = (i : Int) + k * wayOf i (casT r) := ⟨((i : Int) + k * wayOf i (casT r)).toNat, by omega⟩
        obtain ⟨q1, q2, q3⟩ := (ray_mem (u := u) hy4 hi64 h2 hl hit).2 ⟨k, k1, k2, hu⟩
        rw [← hu, Int.toNat_natCast]
        refine cas_off h.toMvK hi q1 ?_
        have hrow2 : u / 8 ≠ casT r / 8 := by
          rcases y with _ | _ | _ | _ | y <;> simp only [onL, decide_eq_true_eq] at hl q2 <;> omega
        intro hx
        apply hrow2
        rcases hx with rfl | rfl | rfl | rfl <;> rcases hr4 with rfl | rfl | rfl | rfl <;> decide
      constructor
      · intro hc k k1 k2; rw [hsame k k1 k2]; exact hc k k1 k2
      · intro hc k k1 k2; rw [← hsame k k1 k2]; exact hc k k1 k2
  rw [Bool.eq_iff_iff, attB_iff, attB_iff]
  have key : ∀ i : Nat, i < 64 → ¬ (i = casF r ∨ i = casT r ∨ i = casR r ∨ i = casM r) → c i ≠ 0 → (hitsP (madeC c (casF r) (casT r) 0) i (casT r) ↔ hitsP c i (casT r)) := by
    intro i hi64 hoff hne
    have he := cas_off h.toMvK hi hi64 hoff
    unfold hitsP strP slaP
    rw [Int.toNat_natCast, he]
    refine and_congr Iff.rfl (and_congr Iff.rfl ?_)
    split
    · exact Iff.rfl
    · split
      · exact Iff.rfl
      · split
        · exact Iff.rfl
        · constructor
          · rintro ⟨a, b⟩
            refine ⟨a, (clr i hi64 hoff hne ?_).2 b⟩
            unfold onRay; omega
          · rintro ⟨a, b⟩
            refine ⟨a, (clr i hi64 hoff hne ?_).1 b⟩
            unfold onRay; omega
  have hside : ∀ n : Int, n = 0 ∨ n = 1 → sideOf (1 + 6 * n) = n ∧ sideOf (3 + 6 * n) = n := fun n hn => by rcases hn with rfl | rfl <;> decide
  have hs2 := hside (c 64) (by omega)
  constructor
  · rintro ⟨i, hi64, a, b, d⟩
    have hoff : ¬ (i = casF r ∨ i = casT r ∨ i = casR r ∨ i = casM r) := by
      rintro (rfl | rfl | rfl | rfl)
      · exact a o1
      · rw [o3, hs2.1] at b; omega
      · exact a o2
      · rw [o4, hs2.2] at b; omega
    have he := cas_off h.toMvK hi hi64 hoff
    rw [he] at a b
    exact ⟨i, hi64, a, b, (key i hi64 hoff a).1 d⟩
  · rintro ⟨i, hi64, a, b, d⟩
    have hoff : ¬ (i = casF r ∨ i = casT r ∨ i = casR r ∨ i = casM r) := fun hx => by
      rcases enemy_off h hi hx with h0 | h0
      · rw [h0] at b; omega
      · exact a h0
    have he := cas_off h.toMvK hi hi64 hoff
    exact ⟨i, hi64, by rw [he]; exact a, by rw [he]; exact b, (key i hi64 hoff a).2 d⟩
end
end Go.Tb
end
