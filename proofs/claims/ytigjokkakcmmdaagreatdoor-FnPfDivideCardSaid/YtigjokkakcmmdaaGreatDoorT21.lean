/-
  A part of the proof (my own): of the texts that the claim's last text rests on: parts P9, P10, P11, P12, P13.
-/
import Derived.Test.YtigjokkakcmmdaaGreatDoorT19
import Derived.Test.YtigjokkakcmmdaaGreatDoorT20
import Derived.Test.YtigjokkakcmmdaaGreatDoorT17
set_option linter.unusedSimpArgs false
set_option linter.unusedVariables false
section
namespace Go.Tb
open Go Go.Proofs
set_option maxRecDepth 20000
section
variable {c : Nat → Int} {f t : Nat} {B : Brd} {D : Pd}
def pawnP (c : Nat → Int) (f t : Nat) : Prop :=
  ((t : Int) = f + 8 * upOf (c 64) ∧ c t = 0) ∨
  ((t : Int) = f + 16 * upOf (c 64) ∧ (f : Int) / 8 = 1 + 5 * c 64 ∧ c ((f : Int) + 8 * upOf (c 64)).toNat = 0 ∧ c t = 0) ∨
  ((fdif f t = 1 ∨ fdif f t = -1) ∧ rdif f t = upOf (c 64) ∧ ((c t ≠ 0 ∧ sideOf (c t) ≠ c 64) ∨ (c t = 0 ∧ (t : Int) = c 66)))
theorem stepL_iff (hi : InvC c) (hf : 8 ≤ f ∧ f ≤ 55) (hs : sideOf (c f) = c 64) (ht : t < 64) : (t : Int) ∈ stepL c f ↔ pawnP c f t := by
  have h64 := hi.turn
  have hu : (c 64 = 0 ∧ upOf (c 64) = 1) ∨ (c 64 = 1 ∧ upOf (c 64) = -1) := by unfold upOf; omega
  have hat : ∀ a b : Int, 0 ≤ a → a ≤ 7 → 0 ≤ b → b ≤ 7 → atSq a b = 8 * b + a := fun a b h1 h2 h3 h4 => by unfold atSq; rw [if_neg (by omega)]
  have hin : ∀ a b : Int, 0 ≤ atSq a b → (0 ≤ a ∧ a ≤ 7) ∧ (0 ≤ b ∧ b ≤ 7) ∧ atSq a b = 8 * b + a := fun a b h => by
    unfold atSq at h ⊢; split at h <;> omega
  have e1 : atSq ((f : Int) % 8) ((f : Int) / 8 + upOf (c 64)) = f + 8 * upOf (c 64) := by rw [hat _ _ (by omega) (by omega) (by omega) (by omega)]; omega
  have e2 : (f : Int) / 8 = 1 + 5 * c 64 → atSq ((f : Int) % 8) ((f : Int) / 8 + 2 * upOf (c 64)) = f + 16 * upOf (c 64) := fun h => by rw [hat _ _ (by omega) (by omega) (by omega) (by omega)]; omega
  have hep : (t : Int) = c 66 → (t : Int) / 8 = 5 - 3 * c 64 := fun h => by rcases hi.ep with h2 | ⟨h2, _⟩ <;> omega
  unfold stepL pawnP
  rw [Int.toNat_natCast, hs, List.mem_append]
  have hA : (t : Int) ∈ advL c f (c 64) ↔ ((t : Int) = f + 8 * upOf (c 64) ∧ c t = 0) ∨ ((t : Int) = f + 16 * upOf (c 64) ∧ (f : Int) / 8 = 1 + 5 * c 64 ∧ c ((f : Int) + 8 * upOf (c 64)).toNat = 0 ∧ c t = 0) := by
    unfold advL
    rw [e1]
    by_cases h0 : c ((f : Int) + 8 * upOf (c 64)).toNat = 0
    · rw [if_pos ⟨by omega, h0⟩, List.mem_cons]
      have q1 : ((t : Int) = f + 8 * upOf (c 64)) ↔ ((t : Int) = f + 8 * upOf (c 64) ∧ c t = 0) := ⟨fun h => ⟨h, by rw [← h, Int.toNat_natCast] at h0; exact h0⟩, fun h => h.1⟩
      by_cases h2 : (f : Int) / 8 = 1 + 5 * c 64
      · rw [e2 h2]
        by_cases h3 : c ((f : Int) + 16 * upOf (c 64)).toNat = 0
        · rw [if_pos ⟨h2, h3⟩, List.mem_singleton, ← q1]
          refine or_congr Iff.rfl ⟨fun h => ⟨h, h2, h0, by rw [← h, Int.toNat_natCast] at h3; exact h3⟩, fun h => h.1⟩
        · rw [if_neg (fun h => h3 h.2), ← q1]
          refine or_congr Iff.rfl ⟨fun h => (by cases h), fun h => ?_⟩
          exact absurd (by rw [← h.1, Int.toNat_natCast]; exact h.2.2.2) h3
      · rw [if_neg (fun h => h2 h.1), ← q1]
        exact or_congr Iff.rfl ⟨fun h => (by cases h), fun h => absurd h.2.1 h2⟩
    · rw [if_neg (fun h => h0 h.2)]
      refine ⟨fun h => (by cases h), ?_⟩
      rintro (⟨h1, h2⟩ | ⟨_, _, h2, _⟩)
      · exact absurd (by rw [← h1, Int.toNat_natCast]; exact h2) h0
      · exact absurd h2 h0
  have hT : (t : Int) ∈ takeL c (c 64) (hitL f (c 64) 2) ↔ (fdif f t = 1 ∨ fdif f t = -1) ∧ rdif f t = upOf (c 64) ∧ ((c t ≠ 0 ∧ sideOf (c t) ≠ c 64) ∨ (c t = 0 ∧ (t : Int) = c 66)) := by
    unfold takeL
    rw [List.mem_filter, decide_eq_true_eq]
    have hH : (t : Int) ∈ hitL f (c 64) 2 ↔ (fdif f t = 1 ∨ fdif f t = -1) ∧ rdif f t = upOf (c 64) := by
      have m0 : (t : Int) ∈ hitL f (c 64) 2 ↔ ((t : Int) = hitT f (c 64) 0 ∨ (t : Int) = hitT f (c 64) 1) := by
        simp only [hitL, List.nil_append, List.mem_append]
        constructor
        · rintro (h | h) <;> split at h <;> simp at h
          · exact .inl h
          · exact .inr h
        · rintro (h | h)
          · left; rw [if_pos (by omega)]; simp [h]
          · right; rw [if_pos (by omega)]; simp [h]
      rw [m0]
      unfold hitT fdif rdif
      constructor
      · rintro (h | h)
        · obtain ⟨a, b, d⟩ := hin _ _ (by rw [← h]; omega)
          omega
        · obtain ⟨a, b, d⟩ := hin _ _ (by rw [← h]; omega)
          omega
      · rintro ⟨h1 | h1, h2⟩
        · right; rw [hat _ _ (by omega) (by omega) (by omega) (by omega)]; omega
        · left; rw [hat _ _ (by omega) (by omega) (by omega) (by omega)]; omega
    rw [hH, and_assoc]
    refine and_congr Iff.rfl (and_congr Iff.rfl ?_)
    unfold takeP
    rw [Int.toNat_natCast]
    exact or_congr Iff.rfl ⟨fun h => ⟨h.1, h.2.1⟩, fun h => ⟨h.1, h.2, hep h.2⟩⟩
  rw [hA, hT, or_assoc]
theorem mk_r3 {s : Nat} (hs : s < 64) : occB 280375465082880#64 s = decide (s / 8 = 2) := (by decide +kernel : ∀ s : Fin 64, occB 280375465082880#64 s.val = decide (s.val / 8 = 2)) ⟨s, hs⟩
theorem mk_r6 {s : Nat} (hs : s < 64) : occB 16711680#64 s = decide (s / 8 = 5) := (by decide +kernel : ∀ s : Fin 64, occB 16711680#64 s.val = decide (s.val / 8 = 5)) ⟨s, hs⟩
theorem occ_ep (hi : InvC c) (hD : D.ep = c 66) (ht : t < 64) : occB (if D.ep = -1 then 0#64 else sqB D.ep) t = decide ((t : Int) = c 66) := by
  rw [hD]
  rcases hi.ep with h | ⟨_, h, _⟩
  · rw [if_pos h, occ_zero, decide_eq_false (by omega)]
  · rw [if_neg (by omega)]
    have := occ_sq (s := (c 66).toNat) (t := t) (by omega) ht
    rw [Int.toNat_of_nonneg h.1] at this
    rw [this]; exact decide_eq_decide.2 (by omega)
theorem pawnB_iff (hr : RepB c B) (hi : InvC c) (hT : D.turn = c 64 + 1) (hD : D.ep = c 66) (hf : 8 ≤ f ∧ f ≤ 55) (ht : t < 64) : occB (pawnB D B f) t = true ↔ pawnP c f t := by
  have h64 := hi.turn
  have hb := hi.bd t ht
  have hep := occ_ep (t := t) hi hD ht
  have hsd : 1 ≤ c t → (sideOf (c t) = 0 ∧ c t ≤ 6) ∨ (sideOf (c t) = 1 ∧ 7 ≤ c t) := fun hx => side_b ⟨hx, hb.2⟩
  have hepz : (t : Int) = c 66 → c t = 0 := fun h => by
    rcases hi.ep with h2 | ⟨_, _, h2, _⟩
    · omega
    · rw [← h, Int.toNat_natCast] at h2; exact h2
  have hem : ∀ u : Nat, u < 64 → occB B.e u = decide (c u = 0) := fun u hu => occ_empty hr hi.bd hu
  have hsq : ∀ u : Nat, u < 64 → occB (sqB (f : Int)) u = decide (f = u) := fun u hu => occ_sq (by omega) hu
  unfold pawnB pawnP
  simp only
  rcases (show c 64 = 0 ∨ c 64 = 1 by omega) with h0 | h0
  · have hu : upOf (c 64) = 1 := by rw [h0]; rfl
    rw [if_pos (by omega), hu]
    have e1 := occ_sr (P := fun u => (f = u ∧ u % 8 ≠ 7) ∧ u < 56) 9 ht (x := sqB (f : Int) &&& 18374403900871474942#64 &&& 18446744073709551360#64) fun u hu => by rw [occ_and, occ_and, hsq u hu, mk_notH hu, mk_not8 hu, and_dec, and_dec]
    have e2 := occ_sr (P := fun u => (f = u ∧ u % 8 ≠ 0) ∧ u < 56) 7 ht (x := sqB (f : Int) &&& 9187201950435737471#64 &&& 18446744073709551360#64) fun u hu => by rw [occ_and, occ_and, hsq u hu, mk_notA hu, mk_not8 hu, and_dec, and_dec]
    have e3 : ∀ u : Nat, u < 64 → (occB ((sqB (f : Int) &&& 18446744073709551360#64) >>> 8) u = true ↔ u = f + 8) := fun u hu => by
      rw [occ_sr (P := fun u => f = u ∧ u < 56) 8 hu (x := sqB (f : Int) &&& 18446744073709551360#64) fun u hu => by rw [occ_and, hsq u hu, mk_not8 hu, and_dec]]
      omega
    have e3' : ∀ u : Nat, u < 64 → occB ((sqB (f : Int) &&& 18446744073709551360#64) >>> 8) u = decide (u = f + 8) := fun u hu => by
      rw [Bool.eq_iff_iff, e3 u hu, decide_eq_true_eq]
    have e4 := occ_sr (P := fun u => (u = f + 8 ∧ c u = 0) ∧ u / 8 = 2) 8 ht (x := (sqB (f : Int) &&& 18446744073709551360#64) >>> 8 &&& B.e &&& 280375465082880#64) fun u hu => by rw [occ_and, occ_and, e3' u hu, hem u hu, mk_r3 hu, and_dec, and_dec]
    have ebl : occB B.b t = decide (7 ≤ c t ∧ c t ≤ 12) := by rw [hr.b]; exact occ_black hr ht
    have hz : c ((f : Int) + 8 * 1).toNat = c (f + 8) := by congr 1
    rw [hz]
    simp only [occ_or, occ_and _ (B.b ||| _), Bool.or_eq_true, Bool.and_eq_true, e1, e2, hep, ebl, decide_eq_true_eq]
    rw [occ_and, occ_and, Bool.and_eq_true, Bool.and_eq_true, e3 t ht, e4, hem t ht, decide_eq_true_eq]
    unfold fdif rdif
    constructor
    · rintro (((⟨⟨a1, ⟨a2, a3⟩, a4⟩, a5⟩ | ⟨⟨a1, ⟨a2, a3⟩, a4⟩, a5⟩) | ⟨a1, a2⟩) | ⟨⟨a1, ⟨a2, a3⟩, a4⟩, a5⟩)
      · refine .inr (.inr ⟨by omega, by omega, ?_⟩)
        rcases a5 with a5 | a5
        · left; omega
        · exact .inr ⟨hepz a5, a5⟩
      · refine .inr (.inr ⟨by omega, by omega, ?_⟩)
        rcases a5 with a5 | a5
        · left; omega
        · exact .inr ⟨hepz a5, a5⟩
      · exact .inl ⟨by omega, a2⟩
      · refine .inr (.inl ⟨by omega, by omega, by rw [← a2]; exact a3, a5⟩)
    · rintro (⟨a1, a2⟩ | ⟨a1, a2, a3, a4⟩ | ⟨a1, a2, a3⟩)
      · exact .inl (.inr ⟨by omega, a2⟩)
      · exact .inr ⟨⟨by omega, ⟨by omega, by rw [show t - 8 = f + 8 by omega]; exact a3⟩, by omega⟩, a4⟩
      · have a5 : (7 ≤ c t ∧ c t ≤ 12) ∨ (t : Int) = c 66 := by
          rcases a3 with a3 | a3
          · left; omega
          · exact .inr a3.2
        rcases a1 with a1 | a1
        · exact .inl (.inl (.inl ⟨⟨by omega, ⟨by omega, by omega⟩, by omega⟩, a5⟩))
        · exact .inl (.inl (.inr ⟨⟨by omega, ⟨by omega, by omega⟩, by omega⟩, a5⟩))
  · have hu : upOf (c 64) = -1 := by rw [h0]; rfl
    rw [if_neg (by omega), hu]
    have e1 := occ_sl (P := fun u => (f = u ∧ u % 8 ≠ 7) ∧ 8 ≤ u) 7 ht (x := sqB (f : Int) &&& 18374403900871474942#64 &&& 72057594037927935#64) fun u hu => by rw [occ_and, occ_and, hsq u hu, mk_notH hu, mk_not1 hu, and_dec, and_dec]
    have e2 := occ_sl (P := fun u => (f = u ∧ u % 8 ≠ 0) ∧ 8 ≤ u) 9 ht (x := sqB (f : Int) &&& 9187201950435737471#64 &&& 72057594037927935#64) fun u hu => by rw [occ_and, occ_and, hsq u hu, mk_notA hu, mk_not1 hu, and_dec, and_dec]
    have e3 : ∀ u : Nat, u < 64 → (occB ((sqB (f : Int) &&& 72057594037927935#64) <<< 8) u = true ↔ u + 8 = f) := fun u hu => by
      rw [occ_sl (P := fun u => f = u ∧ 8 ≤ u) 8 hu (x := sqB (f : Int) &&& 72057594037927935#64) fun u hu => by rw [occ_and, hsq u hu, mk_not1 hu, and_dec]]
      omega
    have e3' : ∀ u : Nat, u < 64 → occB ((sqB (f : Int) &&& 72057594037927935#64) <<< 8) u = decide (u + 8 = f) := fun u hu => by
      rw [Bool.eq_iff_iff, e3 u hu, decide_eq_true_eq]
    have e4 := occ_sl (P := fun u => (u + 8 = f ∧ c u = 0) ∧ u / 8 = 5) 8 ht (x := (sqB (f : Int) &&& 72057594037927935#64) <<< 8 &&& B.e &&& 16711680#64) fun u hu => by rw [occ_and, occ_and, e3' u hu, hem u hu, mk_r6 hu, and_dec, and_dec]
    have ewh : occB B.w t = decide (1 ≤ c t ∧ c t ≤ 6) := by rw [hr.w]; exact occ_white hr ht
    have hz : c ((f : Int) + 8 * -1).toNat = c (f - 8) := by congr 1; omega
    rw [hz]
    simp only [occ_or, occ_and _ (B.w ||| _), Bool.or_eq_true, Bool.and_eq_true, e1, e2, hep, ewh, decide_eq_true_eq]
    rw [occ_and, occ_and, Bool.and_eq_true, Bool.and_eq_true, e3 t ht, e4, hem t ht, decide_eq_true_eq]
    unfold fdif rdif
    constructor
    · rintro (((⟨⟨a1, ⟨a2, a3⟩, a4⟩, a5⟩ | ⟨⟨a1, ⟨a2, a3⟩, a4⟩, a5⟩) | ⟨a1, a2⟩) | ⟨⟨a1, ⟨a2, a3⟩, a4⟩, a5⟩)
      · refine .inr (.inr ⟨by omega, by omega, ?_⟩)
        rcases a5 with a5 | a5
        · left; omega
        · exact .inr ⟨hepz a5, a5⟩
      · refine .inr (.inr ⟨by omega, by omega, ?_⟩)
        rcases a5 with a5 | a5
        · left; omega
        · exact .inr ⟨hepz a5, a5⟩
      · exact .inl ⟨by omega, a2⟩
      · refine .inr (.inl ⟨by omega, by omega, by rw [show f - 8 = t + 8 by omega]; exact a3, a5⟩)
    · rintro (⟨a1, a2⟩ | ⟨a1, a2, a3, a4⟩ | ⟨a1, a2, a3⟩)
      · exact .inl (.inr ⟨by omega, a2⟩)
      · exact .inr ⟨⟨by omega, ⟨by omega, by rw [show t + 8 = f - 8 by omega]; exact a3⟩, by omega⟩, a4⟩
      · have a5 : (1 ≤ c t ∧ c t ≤ 6) ∨ (t : Int) = c 66 := by
          rcases a3 with a3 | a3
          · left; omega
          · exact .inr a3.2
        rcases a1 with a1 | a1
        · exact .inl (.inl (.inl ⟨⟨by omega, ⟨by omega, by omega⟩, by omega⟩, a5⟩))
        · exact .inl (.inl (.inr ⟨⟨by omega, ⟨by omega, by omega⟩, by omega⟩, a5⟩))
end
end Go.Tb
end
section
namespace Go.Tb
open Go Go.Proofs
set_option maxRecDepth 20000
section
variable {c : Nat → Int} {f t : Nat} {B : Brd} {D : Pd} {p : Int}
def ownS (c : Nat → Int) (k : Nat) : Prop := c k ≠ 0 ∧ sideOf (c k) = c 64
def tgtP (c : Nat → Int) (f t : Nat) : Prop := if kindOf (c f) = 6 then pawnP c f t else reachP c f t
theorem kind_bd {n : Int} (h : 1 ≤ n ∧ n ≤ 12) : 1 ≤ kindOf n ∧ kindOf n ≤ 6 := by unfold kindOf; split <;> omega
theorem own_bd (hi : InvC c) (hf : f < 64) (ho : ownS c f) : 1 ≤ c f ∧ c f ≤ 12 := by
  have := hi.bd f hf; have := ho.1; omega
theorem tgt_iff (hi : InvC c) (hf : f < 64) (ho : ownS c f) (ht : t < 64) : (t : Int) ∈ tgtL c f ↔ tgtP c f t := by
  have hk := kind_bd (own_bd hi hf ho)
  unfold tgtL tgtP
  rw [Int.toNat_natCast]
  by_cases h6 : kindOf (c f) = 6
  · rw [if_pos h6, if_pos h6]
    have := hi.pawns f hf h6
    exact stepL_iff hi (by omega) ho.2 ht
  · rw [if_neg h6, if_neg h6]
    exact reachL_iff hf ht (by omega)
theorem occ_allow (hr : RepB c B) (hi : InvC c) (hT : D.turn = c 64 + 1) (ht : t < 64) : occB (allowB D B) t = true ↔ ¬ ownS c t := by
  have hb := hi.bd t ht
  have h64 := hi.turn
  have hs : 1 ≤ c t → (sideOf (c t) = 0 ∧ c t ≤ 6) ∨ (sideOf (c t) = 1 ∧ 7 ≤ c t) := fun h => side_b ⟨h, hb.2⟩
  unfold allowB ownS
  by_cases h2 : D.turn = 2
  · rw [if_pos h2, occ_not _ ht, hr.b, occ_black hr ht]
    simp only [Bool.not_eq_true', decide_eq_false_iff_not]
    omega
  · rw [if_neg h2, occ_not _ ht, hr.w, occ_white hr ht]
    simp only [Bool.not_eq_true', decide_eq_false_iff_not]
    omega
theorem toB_iff (hr : RepB c B) (hi : InvC c) (hT : D.turn = c 64 + 1) (hD : D.ep = c 66) (hf : f < 64) (ho : ownS c f) (ht : t < 64) : occB (toB D B (c f) f) t = true ↔ tgtP c f t ∧ ¬ ownS c t := by
  have hbd := own_bd hi hf ho
  have hk := kind_bd hbd
  unfold toB tgtP
  rw [occ_and, Bool.and_eq_true, occ_allow hr hi hT ht, kind_typ (by omega)]
  by_cases h6 : kindOf (c f) = 6
  · rw [if_pos h6]
    have := hi.pawns f hf h6
    have e : pmB D B (kindOf (c f)) f = pawnB D B f := by unfold pmB; simp [h6]
    rw [e, pawnB_iff hr hi hT hD (by omega) ht]
  · rw [if_neg h6, pmB_iff hr hi.bd hf ht (by omega)]
theorem tgt_att (hi : InvC c) (hf : f < 64) (ho : ownS c f) (h : tgtP c f t) (hc : c t ≠ 0) : attB c t (c 64) = true := by
  have hk := kind_bd (own_bd hi hf ho)
  refine attB_iff.2 ⟨f, hf, ho.1, ho.2, ?_⟩
  unfold tgtP at h
  by_cases h6 : kindOf (c f) = 6
  · rw [if_pos h6] at h
    rcases h with ⟨_, h⟩ | ⟨_, _, _, h⟩ | ⟨h1, h2, h3⟩
    · exact absurd h hc
    · exact absurd h hc
    · refine ⟨?_, by rw [Int.toNat_natCast]; exact ho.1, ?_⟩
      · unfold fdif at h1; omega
      · rw [Int.toNat_natCast]; simp only [h6, Int.reduceEq, ↓reduceIte, ho.2]
        exact ⟨sq1.2 h1, h2⟩
  · rw [if_neg h6] at h
    exact reach_hits ho.1 (by omega) h
theorem mvB_of (hi : InvC c) (hf : f < 64) (ht : t < 64) (ho : ownS c f) (h : tgtP c f t) (hn : ¬ ownS c t) : MvB c f t := by
  have h64 := hi.turn
  refine ⟨hf, ht, ?_, ho, ?_, fun e => ?_⟩
  · unfold tgtP at h
    split at h
    · rintro rfl
      have hu : upOf (c 64) = 1 ∨ upOf (c 64) = -1 := by unfold upOf; omega
      rcases h with ⟨h, _⟩ | ⟨h, _⟩ | ⟨h, _⟩
      · omega
      · omega
      · unfold fdif at h; omega
    · exact h.1
  · by_cases h0 : c t = 0
    · exact .inl h0
    · exact .inr fun e => hn ⟨h0, e⟩
  · obtain ⟨k, k1, k2, k3, k4⟩ := hi.kingAt (b := 1 - c 64) (by omega)
    have := k4 t ht e
    subst this
    have h1 := tgt_att hi hf ho h (by omega)
    have h2 := hi.safe
    rw [k3, h1] at h2; cases h2
def psP (c : Nat → Int) (f t : Nat) : Prop := kindOf (c f) = 6 ∧ (f : Int) % 8 ≠ (t : Int) % 8 ∧ c t = 0
theorem mvN_of (hi : InvC c) (hf : f < 64) (ht : t < 64) (ho : ownS c f) (h : tgtP c f t) (hn : ¬ ownS c t) (hp : p = 0 ∨ ((2 ≤ p ∧ p ≤ 5) ∧ kindOf (c f) = 6)) (hps : ¬ psP c f t) : MvN2 c f t p := by
  have h64 := hi.turn
  have hB := mvB_of hi hf ht ho h hn
  have hK : kindOf (c f) = 1 → (-1 ≤ fdif f t ∧ fdif f t ≤ 1) ∧ (-1 ≤ rdif f t ∧ rdif f t ≤ 1) := fun hk => by
    unfold tgtP at h
    rw [if_neg (by omega)] at h
    have := h.2
    rw [if_pos hk] at this
    exact ⟨sqle1 this.1, sqle1 this.2⟩
  refine ⟨⟨hB, fun htk => ?_, fun hc => ?_, hp⟩, fun h6 hep h0 => ?_, fun hk hh => ?_⟩
  · unfold takesIs at htk
    unfold takesSq
    rw [Int.toNat_natCast, Int.toNat_natCast] at *
    by_cases h0 : c t = 0
    · rw [if_neg (by simp [h0])] at htk
      by_cases h2 : kindOf (c f) = 6 ∧ (f : Int) % 8 ≠ (t : Int) % 8
      · exact absurd ⟨h2.1, h2.2, h0⟩ hps
      · rw [if_neg h2] at htk; cases htk
    · rw [if_pos h0]
  · have hk := hc.1
    rw [Int.toNat_natCast] at hk
    have := hK hk
    have h2 := hc.2
    unfold fdif rdif at this
    omega
  · unfold tgtP at h
    rw [if_pos h6] at h
    have hu : (c 64 = 0 ∧ upOf (c 64) = 1) ∨ (c 64 = 1 ∧ upOf (c 64) = -1) := by unfold upOf; omega
    rcases hi.ep with he | ⟨he1, he2, he3, he4⟩
    · omega
    · rcases h with ⟨h, _⟩ | ⟨h, h', _⟩ | ⟨h, _⟩
      · have e : c 66 - 8 * upOf (c 64) = f := by omega
        rw [e, Int.toNat_natCast] at he4
        have := side_b (own_bd hi hf ho)
        have := ho.2
        omega
      · omega
      · refine hps ⟨h6, ?_, h0⟩
        unfold fdif at h; omega
  · have := hK hk
    unfold fdif rdif at this
    omega
theorem mvE_of (hi : InvC c) (hf : f < 64) (ht : t < 64) (ho : ownS c f) (h : tgtP c f t) (hn : ¬ ownS c t) (hps : psP c f t) : ∃ e, MvE c f t e := by
  have h64 := hi.turn
  have hB := mvB_of hi hf ht ho h hn
  obtain ⟨h6, hfl, h0⟩ := hps
  unfold tgtP at h
  rw [if_pos h6] at h
  have hu : (c 64 = 0 ∧ upOf (c 64) = 1) ∨ (c 64 = 1 ∧ upOf (c 64) = -1) := by unfold upOf; omega
  have hfi : 8 ≤ (f : Int) ∧ (f : Int) ≤ 55 := hi.pawns f hf h6
  rcases h with ⟨h, _⟩ | ⟨h, h', _⟩ | ⟨h1, h2, h3⟩
  · omega
  · omega
  · have he : (t : Int) = c 66 := by
      rcases h3 with h3 | h3
      · exact absurd h0 h3.1
      · exact h3.2
    rcases hi.ep with e1 | ⟨e1, e2, e3, e4⟩
    · omega
    · unfold rdif at h2
      refine ⟨((t : Int) - 8 * upOf (c 64)).toNat, hB, h6, h0, he, hfl, by omega, by omega, by omega, ?_⟩
      rw [he]; exact e4
end
end Go.Tb
end
section
namespace Go.Tb
open Go Go.Proofs
set_option maxRecDepth 20000
theorem nd_fm {α β : Type} {g : α → List β} : ∀ (w : List α), w.Nodup → (∀ d ∈ w, (g d).Nodup) → (∀ d ∈ w, ∀ d' ∈ w, ∀ x, x ∈ g d → x ∈ g d' → d = d') → (w.flatMap g).Nodup
  | [], _, _, _ => by simp
  | a :: w, h1, h2, h3 => by
    rw [List.nodup_cons] at h1
    rw [List.flatMap_cons, List.nodup_append]
    refine ⟨h2 a (by simp), nd_fm w h1.2 (fun d hd => h2 d (by simp [hd])) (fun d hd d' hd' => h3 d (by simp [hd]) d' (by simp [hd'])), fun x hx y hy e => ?_⟩
    subst e
    obtain ⟨d, hd, hx'⟩ := List.mem_flatMap.1 hy
    have := h3 a (by simp) d (by simp [hd]) x hx hx'
    subst this; exact h1.1 hd
section
variable {c : Nat → Int} {f : Nat}
theorem rayF_nd {d : Int × Int} (hd : d ∈ strL ++ slaL) (hf : f < 64) : ∀ (k n : Nat), 1 ≤ n → (rayF c ((f : Int) % 8) ((f : Int) / 8) d.1 d.2 true n k).Nodup
  | 0, n, _ => by simp [rayF]
  | k + 1, n, hn => by
    unfold rayF
    by_cases h0 : atSq ((f : Int) % 8 + n * d.1) ((f : Int) / 8 + n * d.2) < 0
    · rw [if_pos h0]; simp
    · rw [if_neg h0]
      split
      · simp
      · rw [List.nodup_cons]
        refine ⟨fun hm => ?_, rayF_nd hd hf k (n + 1) (by omega)⟩
        obtain ⟨m, h1, h2, h3, h4, _⟩ := (rayF_mem k (n + 1)).1 hm
        obtain ⟨t, ht⟩ : ∃ t : Nat, atSq ((f : Int) % 8 + n * d.1) ((f : Int) / 8 + n * d.2) = t := ⟨(atSq ((f : Int) % 8 + n * d.1) ((f : Int) / 8 + n * d.2)).toNat, by omega⟩
        rw [ht] at h3
        have g1 := (ray_way hf hd hn ht).2.1
        have g2 := (ray_way hf hd (by omega : 1 ≤ m) h3).2.1
        omega
theorem rayF_one {fi ri dx dy : Int} : ∀ (k n : Nat), (rayF c fi ri dx dy false n k).Nodup
  | 0, n => by simp [rayF]
  | k + 1, n => by
    unfold rayF
    split
    · simp
    · rw [if_pos (.inl rfl)]; simp
theorem dirs_inj : ∀ d ∈ strL ++ slaL, ∀ d' ∈ strL ++ slaL, d.1 + 8 * d.2 = d'.1 + 8 * d'.2 → d = d' := by decide
theorem ray_same {d d' : Int × Int} {far : Bool} {x : Int} (hd : d ∈ strL ++ slaL) (hd' : d' ∈ strL ++ slaL) (hf : f < 64) (h1 : x ∈ rayD c f far d) (h2 : x ∈ rayD c f far d') : d = d' := by
  unfold rayD at h1 h2
  obtain ⟨m, a1, a2, a3, a4, _⟩ := (rayF_mem _ _).1 h1
  obtain ⟨m', b1, b2, b3, b4, _⟩ := (rayF_mem _ _).1 h2
  obtain ⟨t, rfl⟩ : ∃ t : Nat, x = t := ⟨x.toNat, by omega⟩
  have g1 := (ray_way hf hd a1 a3).1
  have g2 := (ray_way hf hd' b1 b3).1
  exact dirs_inj d hd d' hd' (by omega)
theorem jmp_same {d d' : Int × Int} {x : Int} (hd : d ∈ jmpL) (hd' : d' ∈ jmpL) (h1 : x ∈ rayD c f false d) (h2 : x ∈ rayD c f false d') : d = d' := by
  unfold rayD at h1 h2
  obtain ⟨m, a1, a2, a3, a4, a5⟩ := (rayF_mem _ _).1 h1
  obtain ⟨m', b1, b2, b3, b4, b5⟩ := (rayF_mem _ _).1 h2
  have hm : m = 1 := by
    rcases Nat.lt_or_ge 1 m with h | h
    · have := (a5 1 (by omega) h).2.2; cases this
    · omega
  have hm' : m' = 1 := by
    rcases Nat.lt_or_ge 1 m' with h | h
    · have := (b5 1 (by omega) h).2.2; cases this
    · omega
  subst hm; subst hm'
  have hin : ∀ a b : Int, atSq a b = x → (0 ≤ a ∧ a ≤ 7) ∧ (0 ≤ b ∧ b ≤ 7) ∧ x = 8 * b + a := fun a b h => by
    unfold atSq at h; split at h <;> omega
  have g1 := hin _ _ a3
  have g2 := hin _ _ b3
  exact Prod.ext (by omega) (by omega)
theorem reachL_nd (hf : f < 64) : (reachL c f).Nodup := by
  unfold reachL reachW
  rw [Int.toNat_natCast]
  have hk : (∃ far, wayF (kindOf (c f)) = far ∧ ((∀ d ∈ wayL (kindOf (c f)), d ∈ strL ++ slaL) ∨ (far = false ∧ wayL (kindOf (c f)) = jmpL)) ∧ (wayL (kindOf (c f))).Nodup) := by
    unfold wayF wayL
    by_cases h1 : kindOf (c f) = 1
    · simp only [h1, ↓reduceIte]; exact ⟨false, rfl, .inl fun d hd => hd, by decide⟩
    · by_cases h2 : kindOf (c f) = 2
      · simp only [h2, ↓reduceIte, Int.reduceEq]; exact ⟨true, rfl, .inl fun d hd => hd, by decide⟩
      · by_cases h3 : kindOf (c f) = 3
        · simp only [h3, ↓reduceIte, Int.reduceEq]; exact ⟨true, rfl, .inl fun d hd => List.mem_append_left _ hd, by decide⟩
        · by_cases h4 : kindOf (c f) = 4
          · simp only [h4, ↓reduceIte, Int.reduceEq]; exact ⟨true, rfl, .inl fun d hd => List.mem_append_right _ hd, by decide⟩
          · simp only [h1, h2, h3, h4, ↓reduceIte]; exact ⟨false, rfl, .inr ⟨rfl, trivial⟩, by decide⟩
  obtain ⟨far, e1, e2, e3⟩ := hk
  rw [e1]
  rcases e2 with e2 | ⟨rfl, e2⟩
  · refine nd_fm _ e3 (fun d hd => ?_) fun d hd d' hd' x hx hx' => ray_same (e2 d hd) (e2 d' hd') hf hx hx'
    cases far
    · exact rayF_one 7 1
    · exact rayF_nd (e2 d hd) hf 7 1 (Nat.le_refl _)
  · refine nd_fm _ e3 (fun d hd => rayF_one 7 1) fun d hd d' hd' x hx hx' => ?_
    rw [e2] at hd hd'
    exact jmp_same hd hd' hx hx'
theorem stepL_nd (hf : 8 ≤ f ∧ f ≤ 55) (hs : sideOf (c f) = 0 ∨ sideOf (c f) = 1) : (stepL c f).Nodup := by
  have hin : ∀ a b x : Int, atSq a b = x → 0 ≤ x → (0 ≤ a ∧ a ≤ 7) ∧ (0 ≤ b ∧ b ≤ 7) ∧ x = 8 * b + a := fun a b x h hx => by
    unfold atSq at h; split at h <;> omega
  unfold stepL
  rw [Int.toNat_natCast]
  generalize sideOf (c f) = s at hs
  have hu : (s = 0 ∧ upOf s = 1) ∨ (s = 1 ∧ upOf s = -1) := by unfold upOf; omega
  have hH : ∀ x ∈ hitL f s 2, 0 ≤ x ∧ x % 8 ≠ (f : Int) % 8 := fun x hx => by
    simp only [hitL, List.nil_append, List.mem_append] at hx
    rcases hx with hx | hx <;> split at hx <;> simp at hx
    · subst hx
      rename_i h0
      have := hin _ _ _ (show atSq ((f : Int) % 8 + (2 * ((0 : Nat) : Int) - 1)) ((f : Int) / 8 + upOf s) = hitT f s 0 from rfl) h0
      omega
    · subst hx
      rename_i h0
      have := hin _ _ _ (show atSq ((f : Int) % 8 + (2 * ((1 : Nat) : Int) - 1)) ((f : Int) / 8 + upOf s) = hitT f s 1 from rfl) h0
      omega
  have hHn : (hitL f s 2).Nodup := by
    simp only [hitL, List.nil_append]
    rw [List.nodup_append]
    refine ⟨by split <;> simp, by split <;> simp, fun a ha b hb e => ?_⟩
    split at ha <;> simp at ha
    split at hb <;> simp at hb
    rename_i h0 h1
    have g0 := hin _ _ _ (show atSq ((f : Int) % 8 + (2 * ((0 : Nat) : Int) - 1)) ((f : Int) / 8 + upOf s) = hitT f s 0 from rfl) h0
    have g1 := hin _ _ _ (show atSq ((f : Int) % 8 + (2 * ((1 : Nat) : Int) - 1)) ((f : Int) / 8 + upOf s) = hitT f s 1 from rfl) h1
    omega
  have hA : ∀ x ∈ advL c f s, x % 8 = (f : Int) % 8 := fun x hx => by
    unfold advL at hx
    split at hx
    · rename_i h0
      have g0 := hin _ _ _ rfl h0.1
      rw [List.mem_cons] at hx
      rcases hx with rfl | hx
      · omega
      · split at hx
        · rename_i h1
          have : atSq ((f : Int) % 8) ((f : Int) / 8 + 2 * upOf s) = 8 * ((f : Int) / 8 + 2 * upOf s) + (f : Int) % 8 := by unfold atSq; rw [if_neg (by omega)]
          simp at hx; omega
        · cases hx
    · cases hx
  have hAn : (advL c f s).Nodup := by
    unfold advL
    split
    · rename_i h0
      have g0 := hin _ _ _ rfl h0.1
      split
      · rename_i h1
        have : atSq ((f : Int) % 8) ((f : Int) / 8 + 2 * upOf s) = 8 * ((f : Int) / 8 + 2 * upOf s) + (f : Int) % 8 := by unfold atSq; rw [if_neg (by omega)]
        rw [List.nodup_cons]
        refine ⟨fun h => ?_, by simp⟩
        simp at h; omega
      · simp
    · simp
  rw [List.nodup_append]
  refine ⟨hAn, List.Nodup.sublist (List.filter_sublist) hHn, fun a ha b hb e => ?_⟩
  have h1 := hA a ha
  have h2 := (hH b (List.mem_filter.1 hb).1).2
  subst e; exact h2 h1
theorem tgtL_nd (hi : InvC c) (hf : f < 64) : (tgtL c f).Nodup := by
  unfold tgtL
  rw [Int.toNat_natCast]
  by_cases h6 : kindOf (c f) = 6
  · rw [if_pos h6]
    have := hi.pawns f hf h6
    exact stepL_nd (by omega) (by unfold sideOf; split <;> omega)
  · rw [if_neg h6]; exact reachL_nd hf
def promOk (c : Nat → Int) (f t : Nat) (p : Int) : Prop := if kindOf (c f) = 6 ∧ (t : Int) / 8 = 7 - 7 * c 64 then 2 ≤ p ∧ p ≤ 5 else p = 0
def NrmM (c : Nat → Int) (m : M3) : Prop := ∃ f t : Nat, f < 64 ∧ t < 64 ∧ ownS c f ∧ tgtP c f t ∧ ¬ ownS c t ∧ m.1 = f ∧ m.2.1 = t ∧ promOk c f t m.2.2
theorem promL_memx {f t : Int} {m : M3} : ∀ n, m ∈ promL f t n ↔ ∃ q : Nat, q < n ∧ m = (f, t, (q : Int) + 2)
  | 0 => by simp [promL]
  | n + 1 => by
    rw [promL, List.mem_append, promL_memx n, List.mem_singleton]
    constructor
    · rintro (⟨q, h1, h2⟩ | h)
      · exact ⟨q, by omega, h2⟩
      · exact ⟨n, by omega, h⟩
    · rintro ⟨q, h1, h2⟩
      rcases Nat.lt_or_ge q n with h | h
      · exact .inl ⟨q, h, h2⟩
      · have : q = n := by omega
        subst this; exact .inr h2
theorem movL_mem {t : Nat} {m : M3} : m ∈ movL c f t ↔ ¬ ownS c t ∧ m.1 = f ∧ m.2.1 = t ∧ promOk c f t m.2.2 := by
  unfold movL promOk
  rw [Int.toNat_natCast, Int.toNat_natCast]
  by_cases ho : ownS c t
  · rw [if_pos (show c t ≠ 0 ∧ sideOf (c t) = c 64 from ho)]; simp [ho]
  · rw [if_neg (show ¬ (c t ≠ 0 ∧ sideOf (c t) = c 64) from ho)]
    by_cases hp : kindOf (c f) = 6 ∧ (t : Int) / 8 = 7 - 7 * c 64
    · rw [if_neg (by rintro (h | h); exact h hp.1; exact h hp.2), if_pos hp, promL_memx]
      constructor
      · rintro ⟨q, h1, rfl⟩; exact ⟨ho, rfl, rfl, by simp only; omega⟩
      · rintro ⟨_, h1, h2, h3⟩
        refine ⟨(m.2.2 - 2).toNat, by omega, ?_⟩
        rw [← h1, ← h2]; exact Prod.ext rfl (Prod.ext rfl (by simp only; omega))
    · rw [if_pos (by by_cases h : kindOf (c f) = 6; right; exact fun e => hp ⟨h, e⟩; left; exact h), if_neg hp, List.mem_singleton]
      constructor
      · rintro rfl; exact ⟨ho, rfl, rfl, rfl⟩
      · rintro ⟨_, h1, h2, h3⟩
        rw [← h1, ← h2, ← h3]
theorem psqK_memx {m : M3} : ∀ n, m ∈ psqK c f n ↔ ∃ i : Nat, i < n ∧ m ∈ movL c f (iAt (tgtL c f) i)
  | 0 => by simp [psqK]
  | n + 1 => by
    rw [psqK, List.mem_append, psqK_memx n]
    constructor
    · rintro (⟨q, h1, h2⟩ | h)
      · exact ⟨q, by omega, h2⟩
      · exact ⟨n, by omega, h⟩
    · rintro ⟨q, h1, h2⟩
      rcases Nat.lt_or_ge q n with h | h
      · exact .inl ⟨q, h, h2⟩
      · have : q = n := by omega
        subst this; exact .inr h2
theorem pseuK_memx {m : M3} : ∀ n, m ∈ pseuK c n ↔ ∃ k : Nat, k < n ∧ ownP c k ∧ m ∈ psqK c k (tgtL c k).length
  | 0 => by simp [pseuK]
  | n + 1 => by
    rw [pseuK, List.mem_append, pseuK_memx n]
    constructor
    · rintro (⟨q, h1, h2⟩ | h)
      · exact ⟨q, by omega, h2⟩
      · split at h
        · exact ⟨n, by omega, by assumption, h⟩
        · cases h
    · rintro ⟨q, h1, h2, h3⟩
      rcases Nat.lt_or_ge q n with h | h
      · exact .inl ⟨q, h, h2, h3⟩
      · have : q = n := by omega
        subst this; right; rw [if_pos h2]; exact h3
theorem pseu_iff (hi : InvC c) {m : M3} : m ∈ pseuK c 64 ↔ NrmM c m := by
  rw [pseuK_memx]
  constructor
  · rintro ⟨k, hk, ho, h⟩
    obtain ⟨i, h1, h2⟩ := (psqK_memx _).1 h
    have hm := iAt_mem h1
    have hb := tgtL_bd c (f := k) (by omega) _ hm
    obtain ⟨t, ht⟩ : ∃ t : Nat, iAt (tgtL c k) i = t := ⟨(iAt (tgtL c k) i).toNat, by omega⟩
    rw [ht] at h2 hm
    obtain ⟨g1, g2, g3, g4⟩ := movL_mem.1 h2
    exact ⟨k, t, hk, by omega, ho, (tgt_iff hi hk ho (by omega)).1 hm, g1, g2, g3, g4⟩
  · rintro ⟨f, t, hf, ht, ho, h1, h2, h3, h4, h5⟩
    refine ⟨f, hf, ho, (psqK_memx _).2 ?_⟩
    have hm := (tgt_iff hi hf ho ht).2 h1
    obtain ⟨i, hi', he⟩ := List.mem_iff_getElem.1 hm
    refine ⟨i, hi', ?_⟩
    have : iAt (tgtL c f) i = t := by
      have := iAt_get hi'
      rw [List.getElem?_eq_getElem hi', he] at this
      exact (Option.some.inj this).symm
    rw [this]
    exact movL_mem.2 ⟨h2, h3, h4, h5⟩
theorem promL_nd {f t : Int} : ∀ n, (promL f t n).Nodup
  | 0 => by simp [promL]
  | n + 1 => by
    rw [promL, List.nodup_append]
    refine ⟨promL_nd n, by simp, fun a ha b hb e => ?_⟩
    obtain ⟨q, h1, rfl⟩ := (promL_memx n).1 ha
    simp at hb; subst hb
    simp only [Prod.mk.injEq, true_and] at e; omega
theorem movL_nd {t : Int} : (movL c f t).Nodup := by
  unfold movL
  split
  · simp
  · split
    · simp
    · exact promL_nd 4
theorem movL_to {t : Int} {m : M3} (h : m ∈ movL c f t) : m.1 = f ∧ m.2.1 = t := by
  unfold movL at h
  split at h
  · cases h
  · split at h
    · simp at h; subst h; exact ⟨rfl, rfl⟩
    · obtain ⟨q, _, rfl⟩ := (promL_memx 4).1 h; exact ⟨rfl, rfl⟩
theorem psqK_nd (hn : (tgtL c f).Nodup) : ∀ n, n ≤ (tgtL c f).length → (psqK c f n).Nodup
  | 0, _ => by simp [psqK]
  | n + 1, h => by
    rw [psqK, List.nodup_append]
    refine ⟨psqK_nd hn n (by omega), movL_nd, fun a ha b hb e => ?_⟩
    obtain ⟨i, h1, h2⟩ := (psqK_memx n).1 ha
    subst e
    have e1 := (movL_to h2).2
    have e2 := (movL_to hb).2
    have hp := List.pairwise_iff_getElem.1 hn i n (by omega) (by omega) h1
    have g1 := iAt_get (l := tgtL c f) (i := i) (by omega)
    have g2 := iAt_get (l := tgtL c f) (i := n) (by omega)
    rw [List.getElem?_eq_getElem (by omega)] at g1 g2
    exact hp (by rw [Option.some.inj g1, Option.some.inj g2]; omega)
theorem psqK_from {m : M3} {n : Nat} (h : m ∈ psqK c f n) : m.1 = f := by
  obtain ⟨i, _, h⟩ := (psqK_memx n).1 h
  exact (movL_to h).1
theorem pseuK_nd (hi : InvC c) : ∀ n, n ≤ 64 → (pseuK c n).Nodup
  | 0, _ => by simp [pseuK]
  | n + 1, h => by
    rw [pseuK, List.nodup_append]
    refine ⟨pseuK_nd hi n (by omega), ?_, fun a ha b hb e => ?_⟩
    · split
      · exact psqK_nd (tgtL_nd hi (by omega)) _ (Nat.le_refl _)
      · simp
    · split at hb
      · obtain ⟨k, h1, _, h2⟩ := (pseuK_memx n).1 ha
        subst e
        have := psqK_from h2
        have := psqK_from hb
        omega
      · cases hb
end
end Go.Tb
end
section
namespace Go.Tb
open Go Go.Proofs
set_option maxRecDepth 20000
def toM (M : Mv) : M3 := (M.s1, M.s2, M.promo)
theorem fK_mem {f : Nat → List Mv} {x : Mv} : ∀ n, x ∈ fK f n ↔ ∃ k : Nat, k < n ∧ x ∈ f k
  | 0 => by simp [fK]
  | n + 1 => by
    rw [fK_S, List.mem_append, fK_mem n]
    constructor
    · rintro (⟨q, h1, h2⟩ | h)
      · exact ⟨q, by omega, h2⟩
      · exact ⟨n, by omega, h⟩
    · rintro ⟨q, h1, h2⟩
      rcases Nat.lt_or_ge q n with h | h
      · exact .inl ⟨q, h, h2⟩
      · have : q = n := by omega
        subst this; exact .inr h2
theorem nd_fK {f : Nat → List Mv} : ∀ n, (∀ k, k < n → ((f k).map toM).Nodup) → (∀ k, k < n → ∀ j, j < n → ∀ x ∈ f k, ∀ y ∈ f j, toM x = toM y → k = j) → ((fK f n).map toM).Nodup
  | 0, _, _ => by simp [fK]
  | n + 1, h1, h2 => by
    rw [fK_S, List.map_append, List.nodup_append]
    refine ⟨nd_fK n (fun k hk => h1 k (by omega)) (fun k hk j hj => h2 k (by omega) j (by omega)), h1 n (by omega), fun a ha b hb e => ?_⟩
    obtain ⟨x, hx, rfl⟩ := List.mem_map.1 ha
    obtain ⟨y, hy, rfl⟩ := List.mem_map.1 hb
    obtain ⟨k, hk, hx'⟩ := (fK_mem n).1 hx
    have := h2 k (by omega) n (by omega) x hx' y hy e
    omega
theorem keepM_mem {m x : Mv} : x ∈ keepM m ↔ x = m ∧ onT 32 m.tags = false := by
  unfold keepM onT
  by_cases h : 0 < band .u16 32 m.tags
  · rw [if_pos h]; simp [h]
  · rw [if_neg h]; simp [h]
theorem att_congr {c c' : Nat → Int} {s b : Int} (hs : 0 ≤ s ∧ s < 64) (hz : ∀ u : Nat, u < 64 → (c u = 0 ↔ c' u = 0)) (he : ∀ u : Nat, u < 64 → (sideOf (c u) = b ∨ sideOf (c' u) = b) → c u ≠ 0 → c u = c' u) : attB c s b = attB c' s b := by
  have key : ∀ c c' : Nat → Int, (∀ u : Nat, u < 64 → (c u = 0 ↔ c' u = 0)) → (∀ u : Nat, u < 64 → (sideOf (c u) = b ∨ sideOf (c' u) = b) → c u ≠ 0 → c u = c' u) → attB c s b = true → attB c' s b = true := by
    intro c c' hz he h
    obtain ⟨i, hi, h1, h2, h3⟩ := attB_iff.1 h
    have e := he i hi (.inl h2) h1
    refine attB_iff.2 ⟨i, hi, by rw [← e]; exact h1, by rw [← e]; exact h2, ?_⟩
    obtain ⟨g1, g2, g3⟩ := h3
    rw [Int.toNat_natCast] at g2 g3
    refine ⟨g1, by rw [Int.toNat_natCast, ← e]; exact g2, ?_⟩
    rw [Int.toNat_natCast, ← e]
    split
    · rename_i k1; rw [if_pos k1] at g3; exact g3
    · rename_i k1
      rw [if_neg k1] at g3
      split
      · rename_i k2; rw [if_pos k2] at g3; exact g3
      · rename_i k2
        rw [if_neg k2] at g3
        split
        · rename_i k3; rw [if_pos k3] at g3; exact g3
        · rename_i k3
          rw [if_neg k3] at g3
          obtain ⟨g3, g4⟩ := g3
          have hr : onRay i s := by
            unfold onRay
            rcases g3 with g3 | g3
            · rcases g3.1 with g | g
              · exact .inl g
              · exact .inr (.inl g)
            · rcases g3.1 with g | g
              · exact .inr (.inr (.inl g))
              · exact .inr (.inr (.inr g))
          refine ⟨?_, fun k k1 k2 => ?_⟩
          · unfold strP slaP at g3 ⊢
            rw [Int.toNat_natCast] at g3 ⊢
            rw [← e]; exact g3
          · have hrr := ray (i := i) (j := s) (by omega) hs hr g1 k (by omega)
            exact (hz _ (by omega)).1 (g4 k k1 k2)
  rw [Bool.eq_iff_iff]
  exact ⟨key c c' hz he, key c' c (fun u hu => (hz u hu).symm) fun u hu h1 h2 => (he u hu h1.symm fun e => h2 ((hz u hu).1 e)).symm⟩
section
variable {c : Nat → Int} {f t : Nat} {B : Brd} {D : Pd} {p : Int}
theorem own_prom {p q : Int} (hi : InvC c) (hp : MvN c f t p) (hq : MvN c f t q) (h1 : p ≠ 0) (h2 : q ≠ 0) : ownC c (madeC c f t p) = ownC c (madeC c f t q) := by
  have h64 := hi.turn
  obtain ⟨k, k1, k2, k3, k4⟩ := hi.kingAt (b := c 64) (by omega)
  have hk : KingAt c (c 64) k := ⟨k1, k2, k4⟩
  have e1 := (kings_N hp hi (by omega) hk).eq
  have e2 := (kings_N hq hi (by omega) hk).eq
  have hp5 : 2 ≤ p ∧ p ≤ 5 := by rcases hp.promo with h | h; exact absurd h h1; exact h.1
  have hq5 : 2 ≤ q ∧ q ≤ 5 := by rcases hq.promo with h | h; exact absurd h h2; exact h.1
  unfold ownC
  rw [e1, e2]
  have hht := hp.ht
  refine att_congr (by split <;> omega) (fun u hu => ?_) (fun u hu hs h0 => ?_)
  · rw [cells_N hp hu, cells_N hq hu]
    split
    · omega
    · exact Iff.rfl
  · rw [cells_N hp hu, cells_N hq hu] at *
    by_cases hut : u = t
    · rw [if_pos hut, if_pos hut, if_neg h1, if_neg h2] at *
      have hsd : ∀ x : Int, 2 ≤ x ∧ x ≤ 5 → sideOf (x + 6 * c 64) = c 64 := fun x hx => by unfold sideOf; split <;> omega
      rw [hsd p hp5, hsd q hq5] at hs; omega
    · rw [if_neg hut, if_neg hut]
theorem leg_own {c' : Nat → Int} {m : M3} (hi : InvC c) (hm : madeM c m = c') (h1 : m.1 = f) (h2 : m.2.1 = t) (hk : ∀ k : Nat, KingAt c (c 64) k → KingAt c' (c 64) (if f = k then t else k)) : legB c m = !ownC c c' := by
  have h64 := hi.turn
  obtain ⟨k, k1, k2, k3, k4⟩ := hi.kingAt (b := c 64) (by omega)
  have hkk : KingAt c (c 64) k := ⟨k1, k2, k4⟩
  have e := (hk k hkk).eq
  have ha : atK c m = ((if f = k then t else k : Nat) : Int) := by
    unfold atK
    rw [k3, h1, h2]
    by_cases h : f = k
    · rw [if_pos h, if_pos (by omega)]
    · rw [if_neg h, if_neg (by omega)]
  unfold legB ownC
  rw [ha, hm, e, decide_eq_false (by omega), Bool.false_or]
theorem givC_gives {c' : Nat → Int} (h64 : c 64 = 0 ∨ c 64 = 1) (h : c' 64 = 1 - c 64) (hk : ∃ k : Nat, KingAt c' (1 - c 64) k) : chkB c' (c' 64) = givC c c' := by
  obtain ⟨k, hk⟩ := hk
  unfold chkB givC
  rw [h, hk.eq, decide_eq_true (by omega), Bool.true_and]; congr 1; omega
end
end Go.Tb
end
section
namespace Go.Tb
open Go Go.Proofs
set_option maxRecDepth 20000
structure RepD (c : Nat → Int) (D : Pd) (B : Brd) : Prop where
  b : RepB c B
  turn : D.turn = c 64 + 1
  ep : D.ep = c 66
inductive KindM (c : Nat → Int) (m : M3) : Prop
  | n (f t : Nat) (h : MvN2 c f t m.2.2) (hg : tgtP c f t) (hp : promOk c f t m.2.2) (e1 : m.1 = f) (e2 : m.2.1 = t)
  | e (f t e : Nat) (h : MvE c f t e) (e1 : m.1 = f) (e2 : m.2.1 = t) (e3 : m.2.2 = 0)
  | k (r : Nat) (h : MvK c r) (e1 : m.1 = casF r) (e2 : m.2.1 = casT r) (e3 : m.2.2 = 0)
structure MokM (c : Nat → Int) (B : Brd) (M : Mv) : Prop where
  kind : KindM c (toM M)
  leg : legB c (toM M) = true
  tags : ∃ b1 b2 b8 b16 : Bool, TagsAre M.tags b1 b2 b8 b16 false ∧ (dbtB c (toM M) = false → b16 = givC c (madeM c (toM M)))
  rep : RepB (madeM c (toM M)) (updB B M)
theorem MokM.mk' {c : Nat → Int} {B : Brd} {M : Mv} {m : M3} (hto : toM M = m) (kind : KindM c m) (leg : legB c m = true) (tags : ∃ b1 b2 b8 b16 : Bool, TagsAre M.tags b1 b2 b8 b16 false ∧ (dbtB c m = false → b16 = givC c (madeM c m))) (rep : RepB (madeM c m) (updB B M)) : MokM c B M := by
  subst hto; exact ⟨kind, leg, tags, rep⟩
attribute [local irreducible] tg4 madeC updB attB inChk
section
variable {c : Nat → Int} {f t : Nat} {B : Brd} {D : Pd}
def lastR (c : Nat → Int) (f t : Nat) : Prop := kindOf (c f) = 6 ∧ (t : Int) / 8 = 7 - 7 * c 64
instance (c : Nat → Int) (f t : Nat) : Decidable (lastR c f t) := by unfold lastR; infer_instance
theorem promOk_y {p : Int} (h : lastR c f t) : promOk c f t p ↔ 2 ≤ p ∧ p ≤ 5 := by
  unfold promOk; rw [if_pos (show kindOf (c f) = 6 ∧ (t : Int) / 8 = 7 - 7 * c 64 from h)]
theorem promOk_n {p : Int} (h : ¬ lastR c f t) : promOk c f t p ↔ p = 0 := by
  unfold promOk; rw [if_neg (show ¬ (kindOf (c f) = 6 ∧ (t : Int) / 8 = 7 - 7 * c 64) from h)]
theorem prom_iff (hi : InvC c) (hf : f < 64) (ho : ownS c f) : promS (c f) t = true ↔ lastR c f t := by
  have hb := own_bd hi hf ho
  have hs := side_b hb
  have hs2 := ho.2
  unfold promS lastR
  rw [decide_eq_true_eq]
  have hk : kindOf (c f) = 6 ↔ (c f = 6 ∨ c f = 12) := by unfold kindOf; split <;> omega
  rw [hk]; omega
theorem and_z {x : BitVec 64} {s : Nat} (hs : s < 64) : (¬ x &&& sqB (s : Int) = 0#64) ↔ occB x s = true := by
  have := and_sq (x := x) (s := (s : Int)) (by omega)
  cases h : occB x s
  · rw [h] at this; simp at this ⊢; exact this
  · rw [h] at this; simp at this ⊢; exact this
theorem std_mem (hr : RepD c D B) (hi : InvC c) {M : Mv} : M ∈ stdL D B ↔ ∃ f t : Nat, f < 64 ∧ t < 64 ∧ ownS c f ∧ tgtP c f t ∧ ¬ ownS c t ∧ ((lastR c f t ∧ ∃ q : Nat, q < 4 ∧ M = qrM D B f t q ∧ onT 32 M.tags = false) ∨ (¬ lastR c f t ∧ M = nmM D B f t ∧ onT 32 M.tags = false)) := by
  have hown : ∀ k f : Nat, k < 12 → f < 64 → ((D.turn = pCol ((k : Int) + 1) ∧ ¬ getP B ((k : Int) + 1) &&& sqB (f : Int) = 0#64) ↔ (c f = (k : Int) + 1 ∧ ownS c f)) := fun k f hk hf => by
    rw [and_z hf, occ_get hr.b (by omega) hf, decide_eq_true_eq, hr.turn]
    constructor
    · rintro ⟨a, b⟩
      refine ⟨b, by omega, ?_⟩
      have := col_side (n := c f) (by omega)
      rw [b] at this ⊢; omega
    · rintro ⟨a, b⟩
      refine ⟨?_, a⟩
      have := col_side (n := c f) (by omega)
      rw [← a, this, b.2]
  unfold stdL stdK
  rw [fK_mem]
  constructor
  · rintro ⟨k, hk, h⟩
    unfold pieL at h
    split at h
    · rename_i ht
      obtain ⟨f, hf, h⟩ := (fK_mem 64).1 h
      unfold fromL at h
      split at h
      · cases h
      · rename_i hg
        obtain ⟨t, ht', h⟩ := (fK_mem 64).1 h
        obtain ⟨hc, ho⟩ := (hown k f hk hf).1 ⟨ht, hg⟩
        rw [← hc] at h
        unfold oneL at h
        split at h
        · cases h
        · rename_i hto
          rw [and_z ht', toB_iff hr.b hi hr.turn hr.ep hf ho ht'] at hto
          refine ⟨f, t, hf, ht', ho, hto.1, hto.2, ?_⟩
          split at h
          · rename_i hp
            obtain ⟨q, hq, h⟩ := (fK_mem 4).1 h
            obtain ⟨e1, e2⟩ := keepM_mem.1 h
            exact .inl ⟨(prom_iff hi hf ho).1 hp, q, hq, e1, by rw [e1]; exact e2⟩
          · rename_i hp
            obtain ⟨e1, e2⟩ := keepM_mem.1 h
            exact .inr ⟨fun e => hp ((prom_iff hi hf ho).2 e), e1, by rw [e1]; exact e2⟩
    · cases h
  · rintro ⟨f, t, hf, ht, ho, h1, h2, h3⟩
    have hb := own_bd hi hf ho
    have hc : c f = (((c f - 1).toNat : Nat) : Int) + 1 := by omega
    obtain ⟨g1, g2⟩ := (hown (c f - 1).toNat f (by omega) hf).2 ⟨hc, ho⟩
    refine ⟨(c f - 1).toNat, by omega, ?_⟩
    unfold pieL
    rw [if_pos g1]
    refine (fK_mem 64).2 ⟨f, hf, ?_⟩
    unfold fromL
    rw [if_neg g2]
    refine (fK_mem 64).2 ⟨t, ht, ?_⟩
    rw [← hc]
    unfold oneL
    rw [if_neg ((and_z ht).2 ((toB_iff hr.b hi hr.turn hr.ep hf ho ht).2 ⟨h1, h2⟩))]
    rcases h3 with ⟨hp, q, hq, e1, e2⟩ | ⟨hp, e1, e2⟩
    · rw [if_pos ((prom_iff hi hf ho).2 hp)]
      exact (fK_mem 4).2 ⟨q, hq, keepM_mem.2 ⟨e1, by rw [← e1]; exact e2⟩⟩
    · rw [if_neg (fun e => hp ((prom_iff hi hf ho).1 e))]
      exact keepM_mem.2 ⟨e1, by rw [← e1]; exact e2⟩
noncomputable def gqB (c : Nat → Int) (f t : Nat) : Nat → Bool
  | 0 => false
  | q + 1 => gqB c f t q || givC c (madeC c f t ((q : Int) + 2))
noncomputable def oqB (c : Nat → Int) (f t : Nat) : Nat → Bool
  | 0 => false
  | q + 1 => oqB c f t q || ownC c (madeC c f t ((q : Int) + 2))
theorem last_nops (hi : InvC c) (hl : lastR c f t) (h : tgtP c f t) (hf : f < 64) (ht : t < 64) (ho : ownS c f) (hn : ¬ ownS c t) : ¬ psP c f t := fun hp => by
  obtain ⟨e, he⟩ := mvE_of hi hf ht ho h hn hp
  have h1 := he.ep
  have h2 := hl.2
  have h64 := hi.turn
  rcases hi.ep with h3 | ⟨h3, _⟩ <;> omega
theorem qr_tags (hr : RepD c D B) (hi : InvC c) (hf : f < 64) (ht : t < 64) (ho : ownS c f) (h : tgtP c f t) (hn : ¬ ownS c t) (hl : lastR c f t) : ∀ n : Nat, n ≤ 4 → TagsAre (qrT D B f t n) false false false (gqB c f t n) (oqB c f t n) ∧ ∀ q : Nat, q < n → RepB (madeC c f t ((q : Int) + 2)) (updB B (qrM D B f t q))
  | 0, _ => ⟨TagsAre.zero, fun q hq => by omega⟩
  | n + 1, hn4 => by
    obtain ⟨ih, ih2⟩ := qr_tags hr hi hf ht ho h hn hl n (by omega)
    have hm := mvN_of (p := (n : Int) + 2) hi hf ht ho h hn (.inr ⟨by omega, hl.1⟩) (last_nops hi hl h hf ht ho hn)
    obtain ⟨a1, a2⟩ := all_N (M := ⟨qrT D B f t n, f, t, (n : Int) + 2⟩) hr.b hi hm hr.turn hr.ep rfl rfl rfl ih
    refine ⟨a1, fun q hq => ?_⟩
    rcases Nat.lt_or_ge q n with h1 | h1
    · exact ih2 q h1
    · have : q = n := by omega
      subst this
      exact a2 _ a1
theorem oq_all (hi : InvC c) (hf : f < 64) (ht : t < 64) (ho : ownS c f) (h : tgtP c f t) (hn : ¬ ownS c t) (hl : lastR c f t) {q : Nat} (hq : q < 4) : ∀ n : Nat, n ≤ 4 → 1 ≤ n → oqB c f t n = ownC c (madeC c f t ((q : Int) + 2))
  | 0, _, h1 => by omega
  | n + 1, h4, _ => by
    have hm := fun (k : Nat) (hk : k < 4) => (mvN_of (p := (k : Int) + 2) hi hf ht ho h hn (.inr ⟨by omega, hl.1⟩) (last_nops hi hl h hf ht ho hn)).toMvN
    have e := own_prom hi (hm n (by omega)) (hm q hq) (by omega) (by omega)
    rw [oqB, e]
    rcases Nat.eq_zero_or_pos n with h0 | h0
    · subst h0; simp [oqB]
    · rw [oq_all hi hf ht ho h hn hl hq n (by omega) h0]; simp
theorem gq_iff : ∀ n : Nat, gqB c f t n = true ↔ ∃ q : Nat, q < n ∧ givC c (madeC c f t ((q : Int) + 2)) = true
  | 0 => by simp [gqB]
  | n + 1 => by
    rw [gqB, Bool.or_eq_true, gq_iff n]
    constructor
    · rintro (⟨q, h1, h2⟩ | h)
      · exact ⟨q, by omega, h2⟩
      · exact ⟨n, by omega, h⟩
    · rintro ⟨q, h1, h2⟩
      rcases Nat.lt_or_ge q n with h | h
      · exact .inl ⟨q, h, h2⟩
      · have : q = n := by omega
        subst this; exact .inr h2
theorem mv_side {p : Int} (hi : InvC c) (h : MvN c f t p) : chkB (madeC c f t p) (madeC c f t p 64) = givC c (madeC c f t p) := by
  have h64 := hi.turn
  exact givC_gives (by omega) (madeC_64 _ _ _ _) (king_ex hi (fun b hb k hk => kings_N h hi hb hk) (1 - c 64) (by omega))
open Classical in
theorem qr_mok (hr : RepD c D B) (hi : InvC c) (hf : f < 64) (ht : t < 64) (ho : ownS c f) (h : tgtP c f t) (hn : ¬ ownS c t) (hl : lastR c f t) {q : Nat} (hq : q < 4) : onT 32 (qrM D B f t q).tags = ownC c (madeC c f t ((q : Int) + 2)) ∧ (ownC c (madeC c f t ((q : Int) + 2)) = false → MokM c B (qrM D B f t q)) := by
  obtain ⟨a1, a2⟩ := qr_tags hr hi hf ht ho h hn hl (q + 1) (by omega)
  have eo := oq_all hi hf ht ho h hn hl hq (q + 1) (by omega) (by omega)
  have hm := fun (k : Nat) (hk : k < 4) => mvN_of (p := (k : Int) + 2) hi hf ht ho h hn (.inr ⟨by omega, hl.1⟩) (last_nops hi hl h hf ht ho hn)
  refine ⟨by rw [← eo]; exact a1.t32, fun hown => ?_⟩
  have hto : toM (qrM D B f t q) = ((f : Int), (t : Int), (q : Int) + 2) := rfl
  refine MokM.mk' hto ?_ ?_ ⟨false, false, false, gqB c f t (q + 1), ?_, fun hd => ?_⟩ ?_
  · exact .n f t (hm q hq) h ((promOk_y hl).2 (by simp only; omega)) rfl rfl
  · rw [leg_own (f := f) (t := t) (c' := madeC c f t ((q : Int) + 2)) hi rfl rfl rfl fun k hk => kings_N (hm q hq).toMvN hi (by have := hi.turn; omega) hk]
    rw [hown]; rfl
  · have := a1
    rw [eo, hown] at this
    exact this
  · show gqB c f t (q + 1) = givC c (madeC c f t ((q : Int) + 2))
    cases hg : givC c (madeC c f t ((q : Int) + 2))
    · cases hx : gqB c f t (q + 1)
      · rfl
      · exfalso
        obtain ⟨j, hj1, hj2⟩ := (gq_iff (q + 1)).1 hx
        have hjq : j < q := by
          rcases Nat.lt_or_ge j q with h1 | h1
          · exact h1
          · have : j = q := by omega
            subst this; rw [hg] at hj2; cases hj2
        have : dbtB c ((f : Int), (t : Int), (q : Int) + 2) = true := by
          unfold dbtB doubtB givesB
          simp only
          rw [mv_side hi (hm q hq).toMvN, hg, if_neg (by rintro (h1 | h1); omega; cases h1)]
          rw [decide_eq_true_eq]
          refine ⟨j + 2, by omega, by omega, ?_⟩
          rw [show ((j + 2 : Nat) : Int) = (j : Int) + 2 by omega, mv_side hi (hm j (by omega)).toMvN]; exact hj2
        rw [this] at hd; cases hd
    · exact (gq_iff (q + 1)).2 ⟨q, by omega, hg⟩
  · exact a2 q (by omega)
theorem nm_mok (hr : RepD c D B) (hi : InvC c) (hf : f < 64) (ht : t < 64) (ho : ownS c f) (h : tgtP c f t) (hn : ¬ ownS c t) (hl : ¬ lastR c f t) : onT 32 (nmM D B f t).tags = ownC c (madeC c f t 0) ∧ (ownC c (madeC c f t 0) = false → MokM c B (nmM D B f t)) := by
  have hto : toM (nmM D B f t) = ((f : Int), (t : Int), 0) := rfl
  have h64 : c 64 = 0 ∨ c 64 = 1 := by have := hi.turn; omega
  by_cases hp : psP c f t
  · obtain ⟨e, he⟩ := mvE_of hi hf ht ho h hn hp
    obtain ⟨a1, a2⟩ := all_E (M := ⟨0, f, t, 0⟩) hr.b hi he hr.turn hr.ep rfl rfl rfl TagsAre.zero
    rw [Bool.false_or, Bool.false_or] at a1 a2
    refine ⟨a1.t32, fun hown => MokM.mk' hto (.e f t e he rfl rfl rfl) ?_ ⟨false, false, true, givC c (madeC c f t 0), ?_, fun _ => rfl⟩ (a2 _ a1)⟩
    · rw [leg_own (f := f) (t := t) (c' := madeC c f t 0) hi rfl rfl rfl fun k hk => kings_E he hi h64 hk]
      rw [hown]; rfl
    · rw [hown] at a1; exact a1
  · have hm := mvN_of (p := 0) hi hf ht ho h hn (.inl rfl) hp
    obtain ⟨a1, a2⟩ := all_N (M := ⟨0, f, t, 0⟩) hr.b hi hm hr.turn hr.ep rfl rfl rfl TagsAre.zero
    rw [Bool.false_or, Bool.false_or] at a1 a2
    refine ⟨a1.t32, fun hown => MokM.mk' hto (.n f t hm h ((promOk_n hl).2 rfl) rfl rfl) ?_ ⟨false, false, false, givC c (madeC c f t 0), ?_, fun _ => rfl⟩ (a2 _ a1)⟩
    · rw [leg_own (f := f) (t := t) (c' := madeC c f t 0) hi rfl rfl rfl fun k hk => kings_N hm.toMvN hi h64 hk]
      rw [hown]; rfl
    · rw [hown] at a1; exact a1
theorem std_mok (hr : RepD c D B) (hi : InvC c) {M : Mv} (h : M ∈ stdL D B) : MokM c B M := by
  obtain ⟨f, t, hf, ht, ho, h1, h2, h3⟩ := (std_mem hr hi).1 h
  rcases h3 with ⟨hl, q, hq, rfl, e⟩ | ⟨hl, rfl, e⟩
  · obtain ⟨a1, a2⟩ := qr_mok hr hi hf ht ho h1 h2 hl hq
    exact a2 (by rw [← a1]; exact e)
  · obtain ⟨a1, a2⟩ := nm_mok hr hi hf ht ho h1 h2 hl
    exact a2 (by rw [← a1]; exact e)
theorem std_iff (hr : RepD c D B) (hi : InvC c) {m : M3} : m ∈ (stdL D B).map toM ↔ NrmM c m ∧ legB c m = true := by
  have h64 : c 64 = 0 ∨ c 64 = 1 := by have := hi.turn; omega
  rw [List.mem_map]
  constructor
  · rintro ⟨M, hM, rfl⟩
    refine ⟨?_, (std_mok hr hi hM).leg⟩
    obtain ⟨f, t, hf, ht, ho, h1, h2, h3⟩ := (std_mem hr hi).1 hM
    rcases h3 with ⟨hl, q, hq, rfl, e⟩ | ⟨hl, rfl, e⟩
    · refine ⟨f, t, hf, ht, ho, h1, h2, rfl, rfl, ?_⟩
      refine (promOk_y hl).2 ?_; show 2 ≤ (q : Int) + 2 ∧ (q : Int) + 2 ≤ 5; omega
    · exact ⟨f, t, hf, ht, ho, h1, h2, rfl, rfl, (promOk_n hl).2 rfl⟩
  · rintro ⟨⟨f, t, hf, ht, ho, h1, h2, e1, e2, hp⟩, hleg⟩
    by_cases hl : lastR c f t
    · rw [promOk_y hl] at hp
      obtain ⟨a1, a2⟩ := qr_mok hr hi hf ht ho h1 h2 hl (q := (m.2.2 - 2).toNat) (by omega)
      have hm := mvN_of (p := (((m.2.2 - 2).toNat : Nat) : Int) + 2) hi hf ht ho h1 h2 (.inr ⟨by omega, hl.1⟩) (last_nops hi hl h1 hf ht ho h2)
      have em : toM (qrM D B f t (m.2.2 - 2).toNat) = m := by
        show ((f : Int), (t : Int), (((m.2.2 - 2).toNat : Nat) : Int) + 2) = m
        rw [← e1, ← e2]; exact Prod.ext rfl (Prod.ext rfl (by simp only; omega))
      refine ⟨qrM D B f t (m.2.2 - 2).toNat, (std_mem hr hi).2 ⟨f, t, hf, ht, ho, h1, h2, .inl ⟨hl, _, by omega, rfl, ?_⟩⟩, em⟩
      rw [a1]
      have := leg_own (m := m) (c' := madeC c f t ((((m.2.2 - 2).toNat : Nat) : Int) + 2)) (f := f) (t := t) hi (by unfold madeM; rw [e1, e2]; congr 1; omega) e1 e2 fun k hk => kings_N hm.toMvN hi h64 hk
      rw [hleg] at this
      cases hx : ownC c (madeC c f t ((((m.2.2 - 2).toNat : Nat) : Int) + 2))
      · rfl
      · rw [hx] at this; cases this
    · rw [promOk_n hl] at hp
      obtain ⟨a1, a2⟩ := nm_mok hr hi hf ht ho h1 h2 hl
      have em : toM (nmM D B f t) = m := by
        show ((f : Int), (t : Int), (0 : Int)) = m
        rw [← e1, ← e2, ← hp]
      refine ⟨nmM D B f t, (std_mem hr hi).2 ⟨f, t, hf, ht, ho, h1, h2, .inr ⟨hl, rfl, ?_⟩⟩, em⟩
      rw [a1]
      have hk : ∀ k : Nat, KingAt c (c 64) k → KingAt (madeC c f t 0) (c 64) (if f = k then t else k) := fun k hk => by
        by_cases hps : psP c f t
        · obtain ⟨e, he⟩ := mvE_of hi hf ht ho h1 h2 hps
          exact kings_E he hi h64 hk
        · exact kings_N (mvN_of (p := 0) hi hf ht ho h1 h2 (.inl rfl) hps).toMvN hi h64 hk
      have := leg_own (m := m) (c' := madeC c f t 0) (f := f) (t := t) hi (by unfold madeM; rw [e1, e2, hp]) e1 e2 hk
      rw [hleg] at this
      cases hx : ownC c (madeC c f t 0)
      · rfl
      · rw [hx] at this; cases this
end
end Go.Tb
end
