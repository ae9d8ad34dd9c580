/-
  A part of the proof (my own): of the texts that the claim's last text rests on: parts P2, G, H1, H2.
-/
import Derived.Test.YtigjokkakcmmdaaGreatDoorT13
import Derived.Test.YtigjokkakcmmdaaGreatDoorT12
set_option linter.unusedSimpArgs false
set_option linter.unusedVariables false
section
namespace Go.Tb
open Go Go.Proofs
set_option maxRecDepth 20000
structure RepB (c : Nat → Int) (B : Brd) : Prop where
  f : ∀ k : Nat, k < 12 → ∀ s : Nat, s < 64 → occB (B.f k) s = decide (c s = (k : Int) + 1)
  w : B.w = whiteOf B
  b : B.b = blackOf B
  e : B.e = ~~~(whiteOf B ||| blackOf B)
  wks : B.wks = kingI c 0
  bks : B.bks = kingI c 1
section
variable {c : Nat → Int} {B : Brd}
theorem occ_white (h : RepB c B) {s : Nat} (hs : s < 64) : occB (whiteOf B) s = decide (1 ≤ c s ∧ c s ≤ 6) := by
  have h0 : occB B.wk s = _ := h.f 0 (by decide) s hs
  have h1 : occB B.wq s = _ := h.f 1 (by decide) s hs
  have h2 : occB B.wr s = _ := h.f 2 (by decide) s hs
  have h3 : occB B.wb s = _ := h.f 3 (by decide) s hs
  have h4 : occB B.wn s = _ := h.f 4 (by decide) s hs
  have h5 : occB B.wp s = _ := h.f 5 (by decide) s hs
  rw [whiteOf, occ_or, occ_or, occ_or, occ_or, occ_or, h0, h1, h2, h3, h4, h5, Bool.eq_iff_iff]
  simp only [Bool.or_eq_true, decide_eq_true_eq]; omega
theorem occ_black (h : RepB c B) {s : Nat} (hs : s < 64) : occB (blackOf B) s = decide (7 ≤ c s ∧ c s ≤ 12) := by
  have h0 : occB B.bk s = _ := h.f 6 (by decide) s hs
  have h1 : occB B.bq s = _ := h.f 7 (by decide) s hs
  have h2 : occB B.br s = _ := h.f 8 (by decide) s hs
  have h3 : occB B.bb s = _ := h.f 9 (by decide) s hs
  have h4 : occB B.bn s = _ := h.f 10 (by decide) s hs
  have h5 : occB B.bp s = _ := h.f 11 (by decide) s hs
  rw [blackOf, occ_or, occ_or, occ_or, occ_or, occ_or, h0, h1, h2, h3, h4, h5, Bool.eq_iff_iff]
  simp only [Bool.or_eq_true, decide_eq_true_eq]; omega
theorem occ_empty (h : RepB c B) (hb : Bd c) {s : Nat} (hs : s < 64) : occB B.e s = decide (c s = 0) := by
  have := hb s hs
  rw [h.e, occ_not _ hs, occ_or, occ_white h hs, occ_black h hs, Bool.eq_iff_iff]
  simp only [Bool.not_eq_true', Bool.or_eq_false_iff, decide_eq_false_iff_not, decide_eq_true_eq]; omega
theorem occ_full (h : RepB c B) (hb : Bd c) {s : Nat} (hs : s < 64) : occB (~~~B.e) s = decide (c s ≠ 0) := by
  rw [occ_not _ hs, occ_empty h hb hs, Bool.eq_iff_iff]; simp
theorem occ_get (h : RepB c B) {p : Int} (h1 : 1 ≤ p ∧ p ≤ 12) {s : Nat} (hs : s < 64) : occB (getP B p) s = decide (c s = p) := by
  unfold getP
  rw [if_pos h1.1, h.f (p - 1).toNat (by omega) s hs]
  exact decide_eq_decide.2 (by omega)
end
theorem occ_shl (x : BitVec 64) (n : Nat) {s : Nat} (hs : s < 64) : occB (x <<< n) s = (decide (s + n < 64) && occB x ((s + n : Nat) : Int)) := by
  rw [occ_nat _ hs, BitVec.getLsbD_shiftLeft]
  by_cases h : s + n < 64
  · rw [occ_nat _ h, decide_eq_true h, decide_eq_true (by omega : 63 - s < 64), decide_eq_false (by omega : ¬ 63 - s < n), show 63 - s - n = 63 - (s + n) by omega]; rfl
  · rw [decide_eq_false h, decide_eq_true (by omega : 63 - s < n)]; simp
theorem occ_shr (x : BitVec 64) (n : Nat) {s : Nat} (hs : s < 64) : occB (x >>> n) s = (decide (n ≤ s) && occB x ((s - n : Nat) : Int)) := by
  rw [occ_nat _ hs, BitVec.getLsbD_ushiftRight]
  by_cases h : n ≤ s
  · rw [occ_nat _ (by omega), decide_eq_true h, show n + (63 - s) = 63 - (s - n) by omega]; rfl
  · rw [decide_eq_false h, BitVec.getLsbD_of_ge x _ (by omega)]; rfl
theorem mk_notH {s : Nat} (hs : s < 64) : occB 18374403900871474942#64 s = decide (s % 8 ≠ 7) := (by decide +kernel : ∀ s : Fin 64, occB 18374403900871474942#64 s.val = decide (s.val % 8 ≠ 7)) ⟨s, hs⟩
theorem mk_notA {s : Nat} (hs : s < 64) : occB 9187201950435737471#64 s = decide (s % 8 ≠ 0) := (by decide +kernel : ∀ s : Fin 64, occB 9187201950435737471#64 s.val = decide (s.val % 8 ≠ 0)) ⟨s, hs⟩
theorem mk_not1 {s : Nat} (hs : s < 64) : occB 72057594037927935#64 s = decide (8 ≤ s) := (by decide +kernel : ∀ s : Fin 64, occB 72057594037927935#64 s.val = decide (8 ≤ s.val)) ⟨s, hs⟩
theorem mk_not8 {s : Nat} (hs : s < 64) : occB 18446744073709551360#64 s = decide (s < 56) := (by decide +kernel : ∀ s : Fin 64, occB 18446744073709551360#64 s.val = decide (s.val < 56)) ⟨s, hs⟩
theorem sq1 {x : Int} : x * x = 1 ↔ x = 1 ∨ x = -1 := by
  constructor
  · intro h
    have := congrArg Int.natAbs h
    rw [Int.natAbs_mul] at this
    have := Nat.eq_one_of_mul_eq_one_right this
    omega
  · rintro (rfl | rfl) <;> rfl
theorem and_dec {p q : Prop} [Decidable p] [Decidable q] : (decide p && decide q) = decide (p ∧ q) := by by_cases hp : p <;> by_cases hq : q <;> simp [hp, hq]
section
variable {c : Nat → Int} {B : Brd}
theorem occ_sl {x : BitVec 64} {P : Nat → Prop} [DecidablePred P] (n : Nat) {s : Nat} (hs : s < 64) (h : ∀ u : Nat, u < 64 → occB x u = decide (P u)) : occB (x <<< n) s = true ↔ s + n < 64 ∧ P (s + n) := by
  rw [occ_shl _ _ hs, Bool.and_eq_true, decide_eq_true_eq]
  exact ⟨fun ⟨a, b⟩ => ⟨a, by rw [h _ a] at b; exact of_decide_eq_true b⟩, fun ⟨a, b⟩ => ⟨a, by rw [h _ a]; exact decide_eq_true b⟩⟩
theorem occ_sr {x : BitVec 64} {P : Nat → Prop} [DecidablePred P] (n : Nat) {s : Nat} (hs : s < 64) (h : ∀ u : Nat, u < 64 → occB x u = decide (P u)) : occB (x >>> n) s = true ↔ n ≤ s ∧ P (s - n) := by
  rw [occ_shr _ _ hs, Bool.and_eq_true, decide_eq_true_eq]
  exact ⟨fun ⟨a, b⟩ => ⟨a, by rw [h _ (by omega)] at b; exact of_decide_eq_true b⟩, fun ⟨a, b⟩ => ⟨a, by rw [h _ (by omega)]; exact decide_eq_true b⟩⟩
theorem pawnA_iff (h : RepB c B) {t : Int} (ht : t = 1 ∨ t = 2) {s : Nat} (hs : s < 64) : occB (pawnA B t) s = true ↔ ∃ i : Nat, i < 64 ∧ c i = 6 + 6 * (2 - t) ∧ fdif i s * fdif i s = 1 ∧ rdif i s = upOf (2 - t) := by
  have hw : ∀ u : Nat, u < 64 → occB B.wp u = decide (c u = 6) := fun u hu => h.f 5 (by decide) u hu
  have hb : ∀ u : Nat, u < 64 → occB B.bp u = decide (c u = 12) := fun u hu => h.f 11 (by decide) u hu
  simp only [sq1]
  rcases ht with rfl | rfl
  · have e1 := occ_sl (P := fun u => (c u = 12 ∧ u % 8 ≠ 7) ∧ 8 ≤ u) 7 hs (x := B.bp &&& 18374403900871474942#64 &&& 72057594037927935#64) fun u hu => by rw [occ_and, occ_and, hb u hu, mk_notH hu, mk_not1 hu, and_dec, and_dec]
    have e2 := occ_sl (P := fun u => (c u = 12 ∧ u % 8 ≠ 0) ∧ 8 ≤ u) 9 hs (x := B.bp &&& 9187201950435737471#64 &&& 72057594037927935#64) fun u hu => by rw [occ_and, occ_and, hb u hu, mk_notA hu, mk_not1 hu, and_dec, and_dec]
    rw [pawnA, if_pos rfl, occ_or, Bool.or_eq_true, e1, e2]
    constructor
    · rintro (⟨a, ⟨b, d⟩, e⟩ | ⟨a, ⟨b, d⟩, e⟩)
      · exact ⟨s + 7, a, by rw [b]; rfl, by unfold fdif; omega, by unfold rdif upOf; omega⟩
      · exact ⟨s + 9, a, by rw [b]; rfl, by unfold fdif; omega, by unfold rdif upOf; omega⟩
    · rintro ⟨i, hi, hc, hf, hr⟩
      unfold fdif at hf; unfold rdif upOf at hr
      rcases hf with hf | hf
      · left; refine ⟨by omega, ⟨?_, by omega⟩, by omega⟩; rw [show s + 7 = i by omega, hc]; rfl
      · right; refine ⟨by omega, ⟨?_, by omega⟩, by omega⟩; rw [show s + 9 = i by omega, hc]; rfl
  · have e1 := occ_sr (P := fun u => (c u = 6 ∧ u % 8 ≠ 7) ∧ u < 56) 9 hs (x := B.wp &&& 18374403900871474942#64 &&& 18446744073709551360#64) fun u hu => by rw [occ_and, occ_and, hw u hu, mk_notH hu, mk_not8 hu, and_dec, and_dec]
    have e2 := occ_sr (P := fun u => (c u = 6 ∧ u % 8 ≠ 0) ∧ u < 56) 7 hs (x := B.wp &&& 9187201950435737471#64 &&& 18446744073709551360#64) fun u hu => by rw [occ_and, occ_and, hw u hu, mk_notA hu, mk_not8 hu, and_dec, and_dec]
    rw [pawnA, if_neg (by decide), occ_or, Bool.or_eq_true, e1, e2]
    constructor
    · rintro (⟨a, ⟨b, d⟩, e⟩ | ⟨a, ⟨b, d⟩, e⟩)
      · exact ⟨s - 9, by omega, by rw [b]; rfl, by unfold fdif; omega, by unfold rdif upOf; omega⟩
      · exact ⟨s - 7, by omega, by rw [b]; rfl, by unfold fdif; omega, by unfold rdif upOf; omega⟩
    · rintro ⟨i, hi, hc, hf, hr⟩
      unfold fdif at hf; unfold rdif upOf at hr
      rcases hf with hf | hf
      · left; refine ⟨by omega, ⟨?_, by omega⟩, by omega⟩; rw [show s - 9 = i by omega, hc]; rfl
      · right; refine ⟨by omega, ⟨?_, by omega⟩, by omega⟩; rw [show s - 7 = i by omega, hc]; rfl
theorem kn_iff {s i : Nat} (hs : s < 64) (hi : i < 64) : occB (tabB bbKnightMoves (s : Int).toNat) i = true ↔ fdif i s * fdif i s + rdif i s * rdif i s = 5 := by
  rw [Int.toNat_natCast, tab_knight ⟨s, hs⟩ ⟨i, hi⟩, decide_eq_true_eq]
  have e1 : fdif (s : Nat) (i : Nat) = -fdif i s := by unfold fdif; omega
  have e2 : rdif (s : Nat) (i : Nat) = -rdif i s := by unfold rdif; omega
  simp only [e1, e2, Int.neg_mul_neg]
theorem ki_iff {s i : Nat} (hs : s < 64) (hi : i < 64) : occB (tabB bbKingMoves (s : Int).toNat) i = true ↔ (i : Int) ≠ s ∧ fdif i s * fdif i s ≤ 1 ∧ rdif i s * rdif i s ≤ 1 := by
  rw [Int.toNat_natCast, tab_king ⟨s, hs⟩ ⟨i, hi⟩, Bool.and_eq_true, Bool.and_eq_true, decide_eq_true_eq, decide_eq_true_eq, decide_eq_true_eq]
  have e1 : fdif (s : Nat) (i : Nat) = -fdif i s := by unfold fdif; omega
  have e2 : rdif (s : Nat) (i : Nat) = -rdif i s := by unfold rdif; omega
  simp only [e1, e2, Int.neg_mul_neg]
  constructor
  · rintro ⟨⟨a, b⟩, d⟩; exact ⟨by omega, b, d⟩
  · rintro ⟨a, b, d⟩; exact ⟨⟨by omega, b⟩, d⟩
theorem hv_iff' {o : BitVec 64} {s i : Nat} (hs : s < 64) (hi : i < 64) (ho : ∀ u : Nat, u < 64 → occB o u = decide (c u ≠ 0)) :
    occB (hvB o s) i = true ↔ (fdif i s = 0 ∨ rdif i s = 0) ∧ (i : Int) ≠ s ∧ clearP c i s (distOf i s) := by
  rw [hv_iff hs hi ho]
  constructor
  · rintro ⟨a, b, d⟩
    refine ⟨by rcases a with a | a; (left; unfold fdif at *; omega); (right; unfold rdif at *; omega), by omega, ?_⟩
    rcases a with a | a
    · exact clear_sym (y := 1) (by decide) hs hi (onL_1.2 a) b d
    · exact clear_sym (y := 0) (by decide) hs hi (onL_0.2 a) b d
  · rintro ⟨a, b, d⟩
    refine ⟨by rcases a with a | a; (left; unfold fdif at *; omega); (right; unfold rdif at *; omega), by omega, ?_⟩
    rcases a with a | a
    · exact clear_sym (y := 1) (by decide) hi hs (onL_1.2 a) (by omega) d
    · exact clear_sym (y := 0) (by decide) hi hs (onL_0.2 a) (by omega) d
theorem dia_iff' {o : BitVec 64} {s i : Nat} (hs : s < 64) (hi : i < 64) (ho : ∀ u : Nat, u < 64 → occB o u = decide (c u ≠ 0)) :
    occB (diaB o s) i = true ↔ (fdif i s = rdif i s ∨ fdif i s = -rdif i s) ∧ (i : Int) ≠ s ∧ clearP c i s (distOf i s) := by
  rw [dia_iff hs hi ho]
  constructor
  · rintro ⟨a, b, d⟩
    refine ⟨by rcases a with a | a; (left; unfold fdif rdif at *; omega); (right; unfold fdif rdif at *; omega), by omega, ?_⟩
    rcases a with a | a
    · exact clear_sym (y := 2) (by decide) hs hi (onL_2.2 a) b d
    · exact clear_sym (y := 3) (by decide) hs hi (onL_3.2 a) b d
  · rintro ⟨a, b, d⟩
    refine ⟨by rcases a with a | a; (left; unfold fdif rdif at *; omega); (right; unfold fdif rdif at *; omega), by omega, ?_⟩
    rcases a with a | a
    · exact clear_sym (y := 2) (by decide) hi hs (onL_2.2 a) (by omega) d
    · exact clear_sym (y := 3) (by decide) hi hs (onL_3.2 a) (by omega) d
theorem clear_1 {i s : Int} {n : Nat} (h : n ≤ 1) : clearP c i s n := fun k h1 h2 => by omega
theorem sqle1 {x : Int} (h : x * x ≤ 1) : -1 ≤ x ∧ x ≤ 1 := by
  by_cases h2 : -1 ≤ x ∧ x ≤ 1
  · exact h2
  · exfalso
    have h3 : 4 ≤ x * x := by
      rcases (by omega : 2 ≤ x ∨ 2 ≤ -x) with h4 | h4
      · have := Int.mul_le_mul h4 h4 (by omega) (by omega); omega
      · have := Int.mul_le_mul h4 h4 (by omega) (by omega); rw [Int.neg_mul_neg] at this; omega
    omega
def attK (c : Nat → Int) (b : Int) (s i : Nat) : Prop :=
  (c i = 2 + 6 * b ∧ ((fdif i s = rdif i s ∨ fdif i s = -rdif i s) ∨ (fdif i s = 0 ∨ rdif i s = 0)) ∧ (i : Int) ≠ s ∧ clearP c i s (distOf i s)) ∨
  (c i = 3 + 6 * b ∧ (fdif i s = 0 ∨ rdif i s = 0) ∧ (i : Int) ≠ s ∧ clearP c i s (distOf i s)) ∨
  (c i = 4 + 6 * b ∧ (fdif i s = rdif i s ∨ fdif i s = -rdif i s) ∧ (i : Int) ≠ s ∧ clearP c i s (distOf i s)) ∨
  (c i = 5 + 6 * b ∧ fdif i s * fdif i s + rdif i s * rdif i s = 5) ∨
  (c i = 6 + 6 * b ∧ fdif i s * fdif i s = 1 ∧ rdif i s = upOf b) ∨
  (c i = 1 + 6 * b ∧ (i : Int) ≠ s ∧ fdif i s * fdif i s ≤ 1 ∧ rdif i s * rdif i s ≤ 1)
theorem hits_attK (hb : Bd c) {b : Int} (hb2 : b = 0 ∨ b = 1) {s i : Nat} (hi : i < 64) : (c i ≠ 0 ∧ sideOf (c i) = b ∧ hitsP c i s) ↔ attK c b s i := by
  have hbd := hb i hi
  have hk : ∀ k : Int, 1 ≤ k ∧ k ≤ 6 → c i = k + 6 * b → kindOf (c i) = k ∧ sideOf (c i) = b ∧ c i ≠ 0 := fun k h1 h2 => by
    unfold kindOf sideOf
    rcases hb2 with rfl | rfl
    · rw [if_neg (by omega), if_neg (by omega)]; omega
    · rw [if_pos (by omega), if_pos (by omega)]; omega
  constructor
  · rintro ⟨h0, hs, h1, _, h2⟩
    rw [Int.toNat_natCast] at h2
    have hc : ∃ k : Int, (1 ≤ k ∧ k ≤ 6) ∧ c i = k + 6 * b := ⟨c i - 6 * b, by unfold sideOf at hs; split at hs <;> omega, by omega⟩
    obtain ⟨k, hk1, hk2⟩ := hc
    have hkk := (hk k hk1 hk2).1
    have hcs : k = 1 ∨ k = 2 ∨ k = 3 ∨ k = 4 ∨ k = 5 ∨ k = 6 := by omega
    unfold attK
    rcases hcs with rfl | rfl | rfl | rfl | rfl | rfl <;> simp [hkk, strP, slaP] at h2
    · exact .inr (.inr (.inr (.inr (.inr ⟨hk2, h1, h2⟩))))
    · exact .inl ⟨hk2, h2.1.symm, h1, h2.2⟩
    · exact .inr (.inl ⟨hk2, h2.1, h1, h2.2⟩)
    · exact .inr (.inr (.inl ⟨hk2, h2.1, h1, h2.2⟩))
    · exact .inr (.inr (.inr (.inl ⟨hk2, h2⟩)))
    · rw [hs] at h2
      exact .inr (.inr (.inr (.inr (.inl ⟨hk2, h2⟩))))
  · intro h
    have hne : ∀ x y : Int, x * x + y * y = 5 → ¬ (x = 0 ∧ y = 0) := by rintro x y h ⟨rfl, rfl⟩; simp at h
    rcases h with ⟨h1, h2, h3, h4⟩ | ⟨h1, h2, h3, h4⟩ | ⟨h1, h2, h3, h4⟩ | ⟨h1, h2⟩ | ⟨h1, h2, h3⟩ | ⟨h1, h2, h3⟩
    · obtain ⟨q1, q2, q3⟩ := hk 2 (by omega) h1
      refine ⟨q3, q2, h3, by simpa using q3, ?_⟩
      rw [Int.toNat_natCast]; simp [q1, strP, slaP]; exact ⟨h2.symm, h4⟩
    · obtain ⟨q1, q2, q3⟩ := hk 3 (by omega) h1
      refine ⟨q3, q2, h3, by simpa using q3, ?_⟩
      rw [Int.toNat_natCast]; simp [q1, strP, slaP]; exact ⟨h2, h4⟩
    · obtain ⟨q1, q2, q3⟩ := hk 4 (by omega) h1
      refine ⟨q3, q2, h3, by simpa using q3, ?_⟩
      rw [Int.toNat_natCast]; simp [q1, strP, slaP]; exact ⟨h2, h4⟩
    · obtain ⟨q1, q2, q3⟩ := hk 5 (by omega) h1
      refine ⟨q3, q2, fun e => hne _ _ h2 (by unfold fdif rdif; omega), by simpa using q3, ?_⟩
      rw [Int.toNat_natCast]; simp [q1]; exact h2
    · obtain ⟨q1, q2, q3⟩ := hk 6 (by omega) h1
      refine ⟨q3, q2, fun e => ?_, by simpa using q3, ?_⟩
      · rw [sq1] at h2; unfold fdif at h2; omega
      · rw [Int.toNat_natCast]; simp [q1, q2]; exact ⟨h2, h3⟩
    · obtain ⟨q1, q2, q3⟩ := hk 1 (by omega) h1
      refine ⟨q3, q2, h2, by simpa using q3, ?_⟩
      rw [Int.toNat_natCast]; simp [q1]; exact h3
theorem attB_iff {s b : Int} : attB c s b = true ↔ ∃ i : Nat, i < 64 ∧ c i ≠ 0 ∧ sideOf (c i) = b ∧ hitsP c i s := by
  unfold attB
  simp only [List.any_eq_true, List.mem_range, Bool.and_eq_true, decide_eq_true_eq, hitsB_iff]
  exact ⟨fun ⟨i, h1, ⟨h2, h3⟩, h4⟩ => ⟨i, h1, h2, h3, h4⟩, fun ⟨i, h1, h2, h3, h4⟩ => ⟨i, h1, ⟨h2, h3⟩, h4⟩⟩
theorem attS_iff (h : RepB c B) (hb : Bd c) {t : Int} (ht : t = 1 ∨ t = 2) {s : Nat} (hs : s < 64) : attS B t s = attB c s (2 - t) := by
  have ho := fun u hu => occ_full h hb (s := u) hu
  have hop : ∀ u : Nat, u < 64 → (occB (if t = 2 then B.w else B.b) u = true ↔ c u ≠ 0 ∧ sideOf (c u) = 2 - t) := fun u hu => by
    have := hb u hu
    rcases ht with rfl | rfl
    · rw [if_neg (by decide), h.b, occ_black h hu, decide_eq_true_eq]; unfold sideOf; split <;> omega
    · rw [if_pos rfl, h.w, occ_white h hu, decide_eq_true_eq]; unfold sideOf; split <;> omega
  have hg : ∀ k : Int, 1 ≤ k ∧ k ≤ 6 → ∀ u : Nat, u < 64 → (occB (getP B (k + 6 * (cOther t - 1))) u = true ↔ c u = k + 6 * (2 - t)) := fun k hk u hu => by
    have e : cOther t - 1 = 2 - t := by rcases ht with rfl | rfl <;> rfl
    rw [e, occ_get h (by omega) hu, decide_eq_true_eq]
  have h2t : 2 - t = 0 ∨ 2 - t = 1 := by omega
  have nzo : ∀ x y : BitVec 64, (!decide (x ||| y = 0#64)) = true ↔ ∃ u : Nat, u < 64 ∧ (occB x u = true ∨ occB y u = true) := fun x y => by
    have := nz_and (x := x ||| y) (y := BitVec.allOnes 64)
    rw [BitVec.and_allOnes] at this
    rw [this]
    have ha : ∀ u : Nat, u < 64 → occB (BitVec.allOnes 64) u = true := fun u hu => by rw [occ_nat _ hu, BitVec.getLsbD_allOnes]; simp; omega
    exact ⟨fun ⟨u, a, b, d⟩ => ⟨u, a, by rw [occ_or, Bool.or_eq_true] at b; exact b⟩, fun ⟨u, a, b⟩ => ⟨u, a, by rw [occ_or, Bool.or_eq_true]; exact b, ha u a⟩⟩
  rw [Bool.eq_iff_iff, attB_iff]
  simp only [attS, Bool.and_eq_true, Bool.or_eq_true, nz_and, nzo]
  constructor
  · rintro ⟨_, h1⟩
    have key : ∃ i : Nat, i < 64 ∧ attK c (2 - t) s i := by
      rcases h1 with ((((h1 | h1) | h1) | h1) | h1) | h1
      · obtain ⟨i, hi, a, b⟩ := h1
        rw [occ_or, Bool.or_eq_true, hv_iff' hs hi ho, dia_iff' hs hi ho] at a
        rw [hg 2 (by omega) i hi] at b
        refine ⟨i, hi, .inl ⟨b, ?_⟩⟩
        rcases a with ⟨a1, a2⟩ | ⟨a1, a2⟩
        · exact ⟨.inl a1, a2⟩
        · exact ⟨.inr a1, a2⟩
      · obtain ⟨i, hi, a, b⟩ := h1
        rw [hv_iff' hs hi ho] at a
        rw [hg 3 (by omega) i hi] at b
        exact ⟨i, hi, .inr (.inl ⟨b, a⟩)⟩
      · obtain ⟨i, hi, a, b⟩ := h1
        rw [dia_iff' hs hi ho] at a
        rw [hg 4 (by omega) i hi] at b
        exact ⟨i, hi, .inr (.inr (.inl ⟨b, a⟩))⟩
      · obtain ⟨i, hi, a, b⟩ := h1
        rw [kn_iff hs hi] at a
        rw [hg 5 (by omega) i hi] at b
        exact ⟨i, hi, .inr (.inr (.inr (.inl ⟨b, a⟩)))⟩
      · obtain ⟨i, hi, a, b⟩ := h1
        rw [occ_sq hs hi, decide_eq_true_eq] at b
        subst b
        rw [pawnA_iff h ht hs] at a
        obtain ⟨j, hj, a⟩ := a
        exact ⟨j, hj, .inr (.inr (.inr (.inr (.inl a))))⟩
      · obtain ⟨i, hi, a, b⟩ := h1
        rw [ki_iff hs hi] at a
        rw [hg 1 (by omega) i hi] at b
        exact ⟨i, hi, .inr (.inr (.inr (.inr (.inr ⟨b, a⟩))))⟩
    obtain ⟨i, hi, hk⟩ := key
    exact ⟨i, hi, (hits_attK hb h2t hi).2 hk⟩
  · rintro ⟨i, hi, hh⟩
    have hk := (hits_attK hb h2t hi).1 hh
    have hopi := (hop i hi).2 ⟨hh.1, hh.2.1⟩
    have far : ∀ {p : Prop}, ((fdif i s = rdif i s ∨ fdif i s = -rdif i s) ∨ (fdif i s = 0 ∨ rdif i s = 0)) → (i : Int) ≠ s → clearP c i s (distOf i s) → p → (∃ u : Nat, u < 64 ∧ (occB ((diaB (~~~B.e) s ||| hvB (~~~B.e) s) &&& if t = 2 then B.w else B.b) u = true ∨ occB (tabB bbKnightMoves (s : Int).toNat &&& if t = 2 then B.w else B.b) u = true)) ∧ p := fun h1 h2 h3 hp => by
      refine ⟨⟨i, hi, .inl ?_⟩, hp⟩
      rw [occ_and, Bool.and_eq_true, occ_or, Bool.or_eq_true, hv_iff' hs hi ho, dia_iff' hs hi ho]
      refine ⟨?_, hopi⟩
      rcases h1 with h1 | h1
      · exact .inl ⟨h1, h2, h3⟩
      · exact .inr ⟨h1, h2, h3⟩
    rcases hk with ⟨h1, h2, h3, h4⟩ | ⟨h1, h2, h3, h4⟩ | ⟨h1, h2, h3, h4⟩ | ⟨h1, h2⟩ | ⟨h1, h2, h3⟩ | ⟨h1, h2, h3, h4⟩
    · refine far h2 h3 h4 (.inl (.inl (.inl (.inl (.inl ⟨i, hi, ?_, (hg 2 (by omega) i hi).2 h1⟩)))))
      rw [occ_or, Bool.or_eq_true, hv_iff' hs hi ho, dia_iff' hs hi ho]
      rcases h2 with h2 | h2
      · exact .inl ⟨h2, h3, h4⟩
      · exact .inr ⟨h2, h3, h4⟩
    · exact far (.inr h2) h3 h4 (.inl (.inl (.inl (.inl (.inr ⟨i, hi, (hv_iff' hs hi ho).2 ⟨h2, h3, h4⟩, (hg 3 (by omega) i hi).2 h1⟩)))))
    · exact far (.inl h2) h3 h4 (.inl (.inl (.inl (.inr ⟨i, hi, (dia_iff' hs hi ho).2 ⟨h2, h3, h4⟩, (hg 4 (by omega) i hi).2 h1⟩))))
    · refine ⟨⟨i, hi, .inr ?_⟩, .inl (.inl (.inr ⟨i, hi, (kn_iff hs hi).2 h2, (hg 5 (by omega) i hi).2 h1⟩))⟩
      rw [occ_and, Bool.and_eq_true]
      exact ⟨(kn_iff hs hi).2 h2, hopi⟩
    · have h2' := h2
      rw [sq1] at h2'
      have hd : distOf i s ≤ 1 := by
        unfold upOf at h3; unfold distOf; omega
      refine far (.inl (by unfold upOf at h3; omega)) (fun e => by unfold fdif at h2'; omega) (clear_1 hd) (.inl (.inr ⟨s, hs, (pawnA_iff h ht hs).2 ⟨i, hi, h1, h2, h3⟩, by rw [occ_sq hs hs]; simp⟩))
    · have h3' := sqle1 h3
      have h4' := sqle1 h4
      have hd : distOf i s ≤ 1 := by unfold distOf; omega
      exact far (by omega) h2 (clear_1 hd) (.inr ⟨i, hi, (ki_iff hs hi).2 ⟨h2, h3, h4⟩, (hg 1 (by omega) i hi).2 h1⟩)
end
end Go.Tb
end
section
namespace Go.Tb
open Go
section
variable {X : Cx} {n0 : Nat}
def mvS (i p k : Nat) : Nat := if k = 100 + i then 100 + p else k
def mvF (i p n : Nat) (fr : Fr) : Fr → Prop
  | [] => True
  | (t, v) :: r => (fr.get t = some (rl (mvS i p) v) ∧ WF n v) ∧ mvF i p n fr r
theorem mvF_get {i p n : Nat} {fr : Fr} : ∀ {fr' : Fr}, mvF i p n fr fr' → ∀ t v, fr'.get t = some v → fr.get t = some (rl (mvS i p) v) ∧ WF n v
  | [], _, t, v, h => by cases h
  | (s, u) :: r, h, t, v, hv => by
    simp only [Fr.get] at hv
    split at hv
    · rename_i e; subst e; simp only [Option.some.injEq] at hv; subst hv; exact h.1
    · exact mvF_get h.2 t v hv
theorem VS.mv (i p : Nat) {fr fr' : Fr} {M L' : List AO} (hn : n0 ≤ i) (hi : i < L'.length) (hp : p < M.length) (hip : p = i ∨ L'.length ≤ p) (hl : L'.length ≤ M.length) (hM : M[p]? = L'[i]?)
    (hk : ∀ k, k < L'.length → k ≠ i → M[k]? = L'[k]?) (hc : ∀ o ∈ L', rnO (mvS i p) o = o ∧ o.wf (100 + L'.length)) (hf : mvF i p (100 + L'.length) fr fr') : VS X n0 (fr, M) (fr', L') := by
  have hg : ∀ k o, L'[k]? = some o → (X.pad ++ M)[mvS i p (100 + k)]? = some (rnO (mvS i p) o) := fun k o h => by
    have hkl := (List.getElem?_eq_some_iff.1 h).1
    rw [(hc o (List.mem_of_getElem? h)).1]
    unfold mvS
    split
    · have : k = i := by omega
      subst this; rw [get_own, hM, h]
    · rw [get_own, hk k hkl (by omega), h]
  refine VS.rename (mvS i p) (fun k hk' => ?_) (fun k o hk' h _ => ?_) (by omega) (fun k hk' => ?_) (fun a b o h _ hb e => ?_) (fun k c T h => ?_) (fun k b c h => ?_) (fun k o h => hg k _ h) (mvF_get hf)
  · unfold mvS; rw [if_neg (by omega)]
  · rw [← hk k (by omega) (by omega)]; exact h
  · unfold mvS; split <;> omega
  · have hal := (List.getElem?_eq_some_iff.1 h).1
    unfold mvS at e
    split at e <;> split at e <;> omega
  · exact ⟨hg k _ h, (hc _ (List.mem_of_getElem? h)).2⟩
  · exact ⟨hg k _ h, (hc _ (List.mem_of_getElem? h)).2⟩
theorem VS.hole {fr fr' : Fr} {L : List AO} (hn : n0 ≤ L.length) (hc : ∀ o ∈ L, o.wf (100 + L.length)) (hf : ∀ t v, fr'.get t = some v → fr.get t = some v ∧ WF (100 + L.length) v) : VS X n0 (fr, L) (fr', L ++ [.any]) := by
  let σ : Nat → Nat := fun k => if k = 100 + L.length then 0 else k
  have hv : ∀ v, WF (100 + L.length) v → rl σ v = v := fun v h => h.fix fun k hk => by simp only [σ]; rw [if_neg (by omega)]
  have hlk : ∀ k o, (L ++ [AO.any])[k]? = some o → o ≠ .any → k < L.length ∧ L[k]? = some o := fun k o h ho => by
    rcases Nat.lt_or_ge k L.length with h1 | h1
    · rw [List.getElem?_append_left h1] at h; exact ⟨h1, h⟩
    · rw [List.getElem?_append_right h1] at h
      rcases Nat.eq_zero_or_pos (k - L.length) with h2 | h2
      · rw [h2] at h; simp at h; exact absurd h.symm ho
      · rw [List.getElem?_eq_none (by simp; omega)] at h; cases h
  have hs : ∀ k, k < L.length → σ (100 + k) = 100 + k := fun k hk => by simp only [σ]; rw [if_neg (by omega)]
  refine VS.rename σ (fun k hk' => ?_) (fun k o hk' h _ => ?_) (by simp; omega) (fun k hk' => ?_) (fun a b o h ho hb e => ?_) (fun k c T h => ?_) (fun k b c h => ?_) (fun k o h => ?_) (fun t v h => ?_)
  · simp only [σ]; rw [if_neg (by omega)]
  · rw [List.getElem?_append_left (by omega)]; exact h
  · simp only [List.length_append, List.length_cons, List.length_nil] at hk'
    simp only [σ]; split <;> omega
  · have h1 := hlk a o h (by rintro rfl; cases ho)
    rw [hs a h1.1] at e
    simp only [σ] at e
    split at e <;> omega
  · obtain ⟨h1, h2⟩ := hlk k _ h (by simp)
    have hw := hc _ (List.mem_of_getElem? h2)
    refine ⟨?_, fun v hv' => (hw v hv').mono (by simp)⟩
    rw [hs k h1, get_own, h2]
    congr 2
    conv => lhs; rw [← List.map_id c]
    exact List.map_congr_left fun v hv' => (hv v (hw v hv')).symm
  · obtain ⟨h1, h2⟩ := hlk k _ h (by simp)
    have hw := hc _ (List.mem_of_getElem? h2)
    refine ⟨?_, fun v hv' => (hw v hv').mono (by simp)⟩
    rw [hs k h1, get_own, h2]
    congr 2
    conv => lhs; rw [← List.map_id c]
    exact List.map_congr_left fun v hv' => (hv v (hw v hv')).symm
  · obtain ⟨h1, h2⟩ := hlk k _ h (by simp)
    rw [hs k h1, get_own, h2]
  · obtain ⟨h1, h2⟩ := hf t v h
    exact ⟨by rw [hv v h2]; exact h1, h2.mono (by simp)⟩
theorem seq_y {Y : Type} (st : Y → Fr × List AO) (good : Y → Prop) {N n0 : Nat} {D : List Deferred} {V : List Nat} {a b : Code} {Q : Exit → Fr → List AO → Prop} {fr : Fr} {L : List AO}
    (hb : ∀ y, good y → wpC X N D n0 V b Q (st y).1 (st y).2)
    (h : ∀ K : Fr → List AO → Prop, (∀ fr L, (∃ y, good y ∧ VS X n0 (fr, L) (st y)) → K fr L) → wpC X N D n0 V a (thenQ K Q) fr L) : wpC X N D n0 V (.seq a b) Q fr L :=
  h _ fun _ _ ⟨y, hy, hv⟩ => ⟨st y, hv, hb y hy⟩
end
abbrev Hold := Option (List Value × Nat)
def slH (b n : Nat) : Hold → Value
  | none => .slice none 0 0
  | some (_, cap) => .slice (some ⟨b, 0, none⟩) n cap
def slB (T : TypeId) (con : List Value) : Hold → AO
  | none => .any
  | some (tl, _) => .cells (con ++ tl) T
def slOk (sz n : Nat) (con : List Value) : Hold → Prop
  | none => n = 0 ∧ con = []
  | some (tl, cap) => con.length = n * sz ∧ (con ++ tl).length = cap * sz ∧ n ≤ cap ∧ ∀ v ∈ tl, Pl v
theorem zrep_pl {zc : List Value} (h : ∀ v ∈ zc, Pl v) : ∀ k, ∀ v ∈ zrep k zc, Pl v := fun k v hv => by
  unfold zrep at hv
  simp only [List.mem_flatten, List.mem_replicate] at hv
  obtain ⟨l, ⟨_, rfl⟩, hv⟩ := hv
  exact h v hv
theorem app_hold {X : Cx} {t tx e sz b n m i : Nat} {x : Value} {zc con news : List Value} {h : Hold} {L : List AO} {K : Value → List AO → Prop} (hsl : tSl X.P t = some (e, sz, b)) (hz : tZero X.P e = some zc) (hzl : zc.length = sz) (hzp : ∀ v ∈ zc, Pl v)
    (hsrc : srcM X.P (X.pad ++ L) sz tx x = some (m, news)) (h1 : news.all one = true) (hn : news.length = m * sz) (hm : 0 < m) (hL : L[i]? = some (slB e con h)) (hok : slOk sz n con h) (hb1 : (n + m) * b ≤ 140737488355328) (hb2 : n + m ≤ 9223372036854775807)
    (hk : ∀ tl cap, slOk sz (n + m) (con ++ news) (some (tl, cap)) → K (.slice (some ⟨100 + i, 0, none⟩) (n + m) cap) (L.set i (.cells (con ++ news ++ tl) e)) ∧ K (.slice (some ⟨100 + L.length, 0, none⟩) (n + m) cap) (L ++ [.cells (con ++ news ++ tl) e])) :
    app2 X L [slH (100 + i) n h, x] [t, tx] K := by
  have hz2 : ∀ c', n + m ≤ c' → con.length = n * sz → slOk sz (n + m) (con ++ news) (some (zrep (c' - (n + m)) zc, c')) := fun c' hc' hcl => by
    have e1 : (con ++ news).length = (n + m) * sz := by rw [List.length_append, hcl, hn, Nat.add_mul]
    refine ⟨e1, ?_, hc', zrep_pl hzp _⟩
    rw [List.length_append, e1]
    have : (zrep (c' - (n + m)) zc).length = (c' - (n + m)) * sz := by simp [zrep, hzl]
    rw [this, ← Nat.add_mul]; congr 1; omega
  cases h with
  | none =>
    obtain ⟨rfl, rfl⟩ := hok
    refine app_gen (c := 0) (base := none) hsl hz hzl hsrc h1 (olds := []) (by simp [oldM]) (fun hr => absurd hr (by omega)) fun _ => ⟨hb1, hb2, fun c' hc' => ?_⟩
    exact (hk _ _ (hz2 c' hc' (by simp))).2
  | some p =>
    obtain ⟨tl, cap⟩ := p
    obtain ⟨o1, o2, o3, o4⟩ := hok
    refine app_own hsl hz hzl hsrc h1 hn hL o1 o2 o3 (fun hr => ?_) fun _ => ⟨hb1, hb2, fun c' hc' => (hk _ _ (hz2 c' hc' o1)).2⟩
    refine (hk (tl.drop news.length) cap ⟨by rw [List.length_append, o1, hn, Nat.add_mul], ?_, hr, fun v hv => o4 v (List.mem_of_mem_drop hv)⟩).1
    have h3 : (n + m) * sz ≤ cap * sz := Nat.mul_le_mul_right _ hr
    rw [Nat.add_mul] at h3
    rw [List.length_append] at o2
    simp only [List.length_append, List.length_drop]
    omega
end Go.Tb
end
section
namespace Go.Tb
open Go Go.Proofs
variable {z : Nat × Nat}
set_option maxRecDepth 20000
theorem CallM.cutX {X : Cx} {f : FuncId} {vs : List Value} {L : List AO} {A : Type} {P : A → Prop} {v : A → Value} {M : A → List AO} (hn : ∀ x, P x → L.length ≤ (M x).length) (hw : ∀ x, P x → ∀ o ∈ M x, o.wf (100 + (M x).length)) (hv : ∀ x, P x → WF (100 + (M x).length) (v x))
    (h : CallM X f vs L fun u N => ∃ x, P x ∧ u = v x ∧ ∃ G, N = M x ++ G) : CallM X f vs L fun u N => ∃ x, P x ∧ u = v x ∧ N = M x :=
  CallM.shift (h.mono fun _ _ ⟨x, hx, h1, G, h2⟩ => ⟨v x, M x, by rw [h2, h1]; exact VS.cut (hn x hx) (hw x hx) (hv x hx), x, hx, rfl, rfl⟩)
theorem wf_int {n : Nat} {k : IntKind} {i : Int} : WF n (.int k i) := Pl.int.wf _
theorem wf_bool {n : Nat} {b : Bool} : WF n (.bool b) := Pl.bool.wf _
theorem wf_nils {n a c : Nat} : WF n (.slice none a c) := fun _ _ _ => by simp
theorem wf_sl {n b o a c : Nat} (h : b < n) : WF n (.slice (some ⟨b, o, none⟩) a c) := fun ρ ρ' e => by simp [e b h]
theorem wf_pt {n b o : Nat} (h : b < n) : WF n (.pointer (some ⟨b, o, none⟩)) := fun ρ ρ' e => by simp [e b h]
theorem plO {c : List Value} {T : TypeId} {n : Nat} (σ : Nat → Nat) (h : ∀ v ∈ c, Pl v) : rnO σ (.cells c T) = .cells c T ∧ (AO.cells c T).wf n := by
  refine ⟨?_, fun v hv => (h v hv).wf _⟩
  show AO.cells (c.map (rl σ)) T = _
  congr 1
  conv => rhs; rw [← List.map_id c]
  exact List.map_congr_left fun v hv => h v hv σ
def subW (n : Nat) (fr : Fr) : Fr → Prop
  | [] => True
  | (t, v) :: r => (fr.get t = some v ∧ WF n v) ∧ subW n fr r
theorem subW_get {n : Nat} {fr : Fr} : ∀ {fr' : Fr}, subW n fr fr' → ∀ t v, fr'.get t = some v → fr.get t = some v ∧ WF n v
  | [], _, t, v, h => by cases h
  | (s, u) :: r, h, t, v, hv => by
    simp only [Fr.get] at hv
    split at hv
    · rename_i e; subst e; simp only [Option.some.injEq] at hv; subst hv; exact h.1
    · exact subW_get h.2 t v hv
theorem isL_pl (l : List Int) : ∀ v ∈ l.map (Value.int .i64), Pl v := fun v hv => by
  obtain ⟨x, _, rfl⟩ := List.mem_map.1 hv; exact Pl.int
theorem pl_app {a b : List Value} (ha : ∀ v ∈ a, Pl v) (hb : ∀ v ∈ b, Pl v) : ∀ v ∈ a ++ b, Pl v := fun v hv => (List.mem_append.1 hv).elim (ha v) (hb v)
def isL (l : List Int) : List Value := l.map (.int .i64)
def slM (T : TypeId) (con : List Value) : Hold → List AO
  | none => []
  | some (tl, _) => [.cells (con ++ tl) T]
def hitT (f s : Int) (k : Nat) : Int := atSq (f % 8 + (2 * (k : Int) - 1)) (f / 8 + upOf s)
def hitL (f s : Int) : Nat → List Int
  | 0 => []
  | k + 1 => hitL f s k ++ if 0 ≤ hitT f s k then [hitT f s k] else []
theorem hitL_len (f s : Int) : ∀ k, (hitL f s k).length ≤ k
  | 0 => Nat.le_refl 0
  | k + 1 => by
    have := hitL_len f s k
    simp only [hitL]; split <;> simp <;> omega
attribute [local irreducible] atSq upOf in
set_option maxHeartbeats 2000000 in
theorem hits_ok2 {f s : Int} (hf : 0 ≤ f ∧ f ≤ 63) (hs : 0 ≤ s ∧ s ≤ 1) : FnM (Tz z) 79 [.int .i64 f, .int .i64 s] [] (fun h : Hold => slOk 1 (hitL f s 2).length (isL (hitL f s 2)) h) (slH 100 (hitL f s 2).length) (slM 3 (isL (hitL f s 2))) := by
  have hu : -1 ≤ upOf s ∧ upOf s ≤ 1 := by unfold upOf; omega
  refine ⟨by simp [Pl.int, Pl.wf], by simp, ?_, CallM.cutX ?_ ?_ ?_ (start [0, 1, 4, 5, 6, 7, 9, 23] Tryz.func79 rfl (by decide) rfl (by kernel_rfl) (by simp [Tryz.f79]) ?_)⟩
  · rintro (_ | ⟨tl, cap⟩) h o ho
    · simp [slM] at ho
    · simp only [slM, List.length_nil, List.drop_zero, List.mem_cons, List.not_mem_nil, or_false] at ho; subst ho; rfl
  · intro x hx; simp
  · rintro (_ | ⟨tl, cap⟩) h o ho
    · simp [slM] at ho
    · simp only [slM, List.mem_cons, List.not_mem_nil, or_false] at ho; subst ho
      exact (plO (fun i => i) (pl_app (isL_pl _) h.2.2.2)).2
  · rintro (_ | ⟨tl, cap⟩) h
    · exact wf_nils
    · exact wf_sl (by simp [slM])
  simp only [Tryz.f79]
  repeat' (first | ((with_reducible refine app_k ?_); refine app_hold (X := Tz z) (i := 0) (e := 3) (sz := 1) (b := 8) (m := 1) (zc := [.int .i64 0]) (news := [.int .i64 (hitT f s y.1)]) (by kernel_rfl) (by kernel_rfl) rfl (by simp [Pl.int]) (src_own (j := 1) rfl (by kernel_rfl) rfl) rfl rfl (by decide) rfl hk.2 (by have := hitL_len f s y.1; omega) (by have := hitL_len f s y.1; omega) (fun tl cap hcap => ⟨?_, ?_⟩)) | (with_reducible first | refine loop (V := [0, 1, 4, 5, 6, 7, 9, 23]) (fun y : Nat × Hold => ([(0, .int .i64 f), (1, .int .i64 s), (5, slH 100 (hitL f s y.1).length y.2), (6, .int .i64 (2 * (y.1 : Int) - 1))], [slB 3 (isL (hitL f s y.1)) y.2])) (fun y => y.1 ≤ 2 ∧ slOk 1 (hitL f s y.1).length (isL (hitL f s y.1)) y.2) (fun y => 2 - y.1) (0, none) (by kernel_rfl) ?_ ?_ (fun y hk => ?_) | refine call_p (file_ok (by omega)) ?_ | refine qG_call (file_ok (by omega)) ?_ | refine zG_call (file_ok (by omega)) ?_ | refine yG_call (file_ok (by omega)) ?_ | refine piG_call (file_ok (by omega)) ?_ | refine call_p (rank_ok (by omega) (by omega)) ?_ | refine qG_call (rank_ok (by omega) (by omega)) ?_ | refine zG_call (rank_ok (by omega) (by omega)) ?_ | refine yG_call (rank_ok (by omega) (by omega)) ?_ | refine piG_call (rank_ok (by omega) (by omega)) ?_ | refine call_p (up_ok (by omega) (by omega)) ?_ | refine qG_call (up_ok (by omega) (by omega)) ?_ | refine zG_call (up_ok (by omega) (by omega)) ?_ | refine yG_call (up_ok (by omega) (by omega)) ?_ | refine piG_call (up_ok (by omega) (by omega)) ?_ | refine call_p (at_ok (by omega) (by omega)) ?_ | refine qG_call (at_ok (by omega) (by omega)) ?_ | refine zG_call (at_ok (by omega) (by omega)) ?_ | refine yG_call (at_ok (by omega) (by omega)) ?_ | refine piG_call (at_ok (by omega) (by omega)) ?_ | refine seq_k fun K hK => ?_) | (with_reducible refine hK _ _ ?_; clear hK) | ((with_reducible first | refine gd_dec ?_ ?_ | refine gd_ndec ?_ ?_ | refine qC_dec ?_ ?_ | refine qC_ndec ?_ ?_ | refine piC_dec ?_ ?_ | refine piC_ndec ?_ ?_ | refine zC_dec ?_ ?_ | refine zC_ndec ?_ ?_ | refine zD_dec ?_ ?_ | refine yC_dec ?_ ?_ | refine yC_ndec ?_ ?_ | refine if_dec ?_ ?_ | refine if_ndec ?_ ?_) <;> intro hh) | simp -implicitDefEqProofs (disch := first | omega | assumption) only [go_sem, ↓reduceIte, Nat.reduceEqDiff, Int.reduceEq, Nat.reduceAdd, Nat.reduceSub, Nat.reduceMul, Nat.mul_one, Nat.one_mul, List.length_nil, List.length_cons, List.nil_append, List.cons_append, List.length_append, List.set_cons_zero, List.set_cons_succ, Nat.zero_add, Nat.sub_zero, Option.isNone_none, Option.isNone_some, Int.toNat_natCast, Nat.add_sub_cancel_left, Bool.not_true, Bool.not_false, BitVec.reduceOfInt, Int.reduceToNat] | ((with_reducible first | refine gd_bool ?_ ?_ | refine if_bool ?_ ?_ | refine qC_bool ?_ ?_ | refine piC_bool ?_ ?_ | refine zC_bool ?_ ?_ | refine zD_bool ?_ ?_ | refine yC_bool ?_ ?_) <;> intro hh) | clear hK)
  · exact ⟨by omega, rfl, rfl⟩
  · exact VS.hole (L := []) (by simp) (by simp) (subW_get (by simp [subW, Fr.get, slH, hitL, wf_int, wf_nils]))
  · have e : hitL f s (y.1 + 1) = hitL f s y.1 ++ [hitT f s y.1] := by simp only [hitL]; rw [if_pos (show 0 ≤ hitT f s y.1 from hh)]
    refine ⟨(y.1 + 1, some (tl, cap)), ⟨by omega, ?_⟩, by simp only; omega, VS.mv 0 0 (by decide) (by simp) (by simp) (.inl rfl) (by simp) ?_ ?_ ?_ ?_⟩
    · rw [e]; simpa [isL] using hcap
    · simp [slB, e, isL]
    · intro k h1 h2; simp at h1; omega
    · intro o ho
      simp only [List.mem_cons, List.not_mem_nil, or_false] at ho; subst ho
      exact plO _ (pl_app (isL_pl _) hcap.2.2.2)
    · simp [mvF, Fr.get, slH, mvS, e, wf_int, wf_sl]; omega
  · have e : hitL f s (y.1 + 1) = hitL f s y.1 ++ [hitT f s y.1] := by simp only [hitL]; rw [if_pos (show 0 ≤ hitT f s y.1 from hh)]
    refine ⟨(y.1 + 1, some (tl, cap)), ⟨by omega, ?_⟩, by simp only; omega, VS.mv 0 2 (by decide) (by simp) (by simp) (.inr (by simp)) (by simp) ?_ ?_ ?_ ?_⟩
    · rw [e]; simpa [isL] using hcap
    · simp [slB, e, isL]
    · intro k h1 h2; simp at h1; omega
    · intro o ho
      simp only [List.mem_cons, List.not_mem_nil, or_false] at ho; subst ho
      exact plO _ (pl_app (isL_pl _) hcap.2.2.2)
    · simp [mvF, Fr.get, slH, mvS, e, wf_int, wf_sl]; omega
  · have e : hitL f s (y.1 + 1) = hitL f s y.1 := by simp only [hitL]; rw [if_neg (show ¬ 0 ≤ hitT f s y.1 from hh), List.append_nil]
    refine ⟨(y.1 + 1, y.2), ⟨by omega, by rw [e]; exact hk.2⟩, by simp only; omega, VS.sub2 ?_ (by rw [e])⟩
    simp [Fr.sub, Fr.get, e]; omega
  · have h2 : y.1 = 2 := by omega
    rw [h2] at hk ⊢
    refine ⟨y.2, hk.2, rfl, ?_⟩
    cases y.2 with
    | none => exact ⟨[.any], rfl⟩
    | some p => exact ⟨[], rfl⟩
end Go.Tb
end
section
namespace Go.Tb
open Go Go.Proofs
variable {z : Nat × Nat}
set_option maxRecDepth 20000
theorem CallM.shiftX {X : Cx} {f : FuncId} {vs : List Value} {L : List AO} {A : Type} {P : A → Prop} {v : A → Value} {M : A → List AO}
    (h : CallM X f vs L fun u N => ∃ x, P x ∧ VS X L.length ([(0, u)], N) ([(0, v x)], M x)) : CallM X f vs L fun u N => ∃ x, P x ∧ u = v x ∧ N = M x :=
  CallM.shift (h.mono fun _ _ ⟨x, hx, h1⟩ => ⟨v x, M x, h1, x, hx, rfl, rfl⟩)
def strL : List (Int × Int) := [(0, 1), (1, 0), (0, -1), (-1, 0)]
def slaL : List (Int × Int) := [(1, 1), (1, -1), (-1, -1), (-1, 1)]
def jmpL : List (Int × Int) := [(1, 2), (2, 1), (2, -1), (1, -2), (-1, -2), (-2, -1), (-2, 1), (-1, 2)]
def prL : List (Int × Int) → List Value
  | [] => []
  | p :: l => .int .i64 p.1 :: .int .i64 p.2 :: prL l
theorem prL_pl : ∀ l, ∀ v ∈ prL l, Pl v
  | [], v, h => by cases h
  | p :: l, v, h => by
    simp only [prL, List.mem_cons] at h
    rcases h with rfl | rfl | h
    · exact Pl.int
    · exact Pl.int
    · exact prL_pl l v h
theorem spl_2 (c : List Value) (o : Nat) (u v : Value) : spl c o [u, v] = c.take o ++ (u :: v :: c.drop (o + 2)) := by simp [spl]
theorem cel2 (k k' : IntKind) (a b : Int) : cellsL (.agg #[.int k a, .int k' b]) = [.int k a, .int k' b] := by simp [cellsL]
set_option maxHeartbeats 2000000 in
theorem straight_ok : FnM (Tz z) 93 [] [] (fun _ : Unit => True) (fun _ => .slice (some ⟨100, 0, none⟩) 4 4) (fun _ => [.cells [.int .i64 (0), .int .i64 (1), .int .i64 (1), .int .i64 (0), .int .i64 (0), .int .i64 (-1), .int .i64 (-1), .int .i64 (0)] 122]) := by
  refine ⟨by simp, by simp, fun _ _ o ho => ?_, start [0] Tryz.func93 rfl (by decide) rfl (by kernel_rfl) (by simp [Tryz.f93]) ?_⟩
  · simp at ho; subst ho; rfl
  simp only [Tryz.f93]
  repeat' (first | with_reducible refine seq_k fun K hK => ?_ | (with_reducible refine hK _ _ ?_; clear hK) | ((with_reducible first | refine gd_dec ?_ ?_ | refine gd_ndec ?_ ?_ | refine qC_dec ?_ ?_ | refine qC_ndec ?_ ?_ | refine piC_dec ?_ ?_ | refine piC_ndec ?_ ?_ | refine zC_dec ?_ ?_ | refine zC_ndec ?_ ?_ | refine zD_dec ?_ ?_ | refine yC_dec ?_ ?_ | refine yC_ndec ?_ ?_ | refine if_dec ?_ ?_ | refine if_ndec ?_ ?_) <;> intro hh) | simp -implicitDefEqProofs (disch := first | omega | assumption) only [go_sem, ↓reduceIte, Nat.reduceEqDiff, Int.reduceEq, Nat.reduceAdd, Nat.reduceSub, Nat.reduceMul, Nat.mul_one, Nat.one_mul, List.length_nil, List.length_cons, List.nil_append, List.cons_append, List.length_append, List.set_cons_zero, List.set_cons_succ, Nat.zero_add, Nat.sub_zero, Option.isNone_none, Option.isNone_some, Int.toNat_natCast, Nat.add_sub_cancel_left, Bool.not_true, Bool.not_false, BitVec.reduceOfInt, Int.reduceToNat, spl_2, cel2, List.take_succ_cons, List.take_zero, List.drop_succ_cons, List.drop_zero, List.drop_nil, List.take_nil] | ((with_reducible first | refine gd_bool ?_ ?_ | refine if_bool ?_ ?_ | refine qC_bool ?_ ?_ | refine piC_bool ?_ ?_ | refine zC_bool ?_ ?_ | refine zD_bool ?_ ?_ | refine yC_bool ?_ ?_) <;> intro hh) | clear hK)
  all_goals exact ⟨(), trivial, by trivial, by trivial⟩
set_option maxHeartbeats 2000000 in
theorem slanting_ok : FnM (Tz z) 94 [] [] (fun _ : Unit => True) (fun _ => .slice (some ⟨100, 0, none⟩) 4 4) (fun _ => [.cells [.int .i64 (1), .int .i64 (1), .int .i64 (1), .int .i64 (-1), .int .i64 (-1), .int .i64 (-1), .int .i64 (-1), .int .i64 (1)] 122]) := by
  refine ⟨by simp, by simp, fun _ _ o ho => ?_, start [0] Tryz.func94 rfl (by decide) rfl (by kernel_rfl) (by simp [Tryz.f94]) ?_⟩
  · simp at ho; subst ho; rfl
  simp only [Tryz.f94]
  repeat' (first | with_reducible refine seq_k fun K hK => ?_ | (with_reducible refine hK _ _ ?_; clear hK) | ((with_reducible first | refine gd_dec ?_ ?_ | refine gd_ndec ?_ ?_ | refine qC_dec ?_ ?_ | refine qC_ndec ?_ ?_ | refine piC_dec ?_ ?_ | refine piC_ndec ?_ ?_ | refine zC_dec ?_ ?_ | refine zC_ndec ?_ ?_ | refine zD_dec ?_ ?_ | refine yC_dec ?_ ?_ | refine yC_ndec ?_ ?_ | refine if_dec ?_ ?_ | refine if_ndec ?_ ?_) <;> intro hh) | simp -implicitDefEqProofs (disch := first | omega | assumption) only [go_sem, ↓reduceIte, Nat.reduceEqDiff, Int.reduceEq, Nat.reduceAdd, Nat.reduceSub, Nat.reduceMul, Nat.mul_one, Nat.one_mul, List.length_nil, List.length_cons, List.nil_append, List.cons_append, List.length_append, List.set_cons_zero, List.set_cons_succ, Nat.zero_add, Nat.sub_zero, Option.isNone_none, Option.isNone_some, Int.toNat_natCast, Nat.add_sub_cancel_left, Bool.not_true, Bool.not_false, BitVec.reduceOfInt, Int.reduceToNat, spl_2, cel2, List.take_succ_cons, List.take_zero, List.drop_succ_cons, List.drop_zero, List.drop_nil, List.take_nil] | ((with_reducible first | refine gd_bool ?_ ?_ | refine if_bool ?_ ?_ | refine qC_bool ?_ ?_ | refine piC_bool ?_ ?_ | refine zC_bool ?_ ?_ | refine zD_bool ?_ ?_ | refine yC_bool ?_ ?_) <;> intro hh) | clear hK)
  all_goals exact ⟨(), trivial, by trivial, by trivial⟩
set_option maxHeartbeats 2000000 in
theorem jumps_ok : FnM (Tz z) 95 [] [] (fun _ : Unit => True) (fun _ => .slice (some ⟨100, 0, none⟩) 8 8) (fun _ => [.cells [.int .i64 (1), .int .i64 (2), .int .i64 (2), .int .i64 (1), .int .i64 (2), .int .i64 (-1), .int .i64 (1), .int .i64 (-2), .int .i64 (-1), .int .i64 (-2), .int .i64 (-2), .int .i64 (-1), .int .i64 (-2), .int .i64 (1), .int .i64 (-1), .int .i64 (2)] 122]) := by
  refine ⟨by simp, by simp, fun _ _ o ho => ?_, start [0] Tryz.func95 rfl (by decide) rfl (by kernel_rfl) (by simp [Tryz.f95]) ?_⟩
  · simp at ho; subst ho; rfl
  simp only [Tryz.f95]
  repeat' (first | with_reducible refine seq_k fun K hK => ?_ | (with_reducible refine hK _ _ ?_; clear hK) | ((with_reducible first | refine gd_dec ?_ ?_ | refine gd_ndec ?_ ?_ | refine qC_dec ?_ ?_ | refine qC_ndec ?_ ?_ | refine piC_dec ?_ ?_ | refine piC_ndec ?_ ?_ | refine zC_dec ?_ ?_ | refine zC_ndec ?_ ?_ | refine zD_dec ?_ ?_ | refine yC_dec ?_ ?_ | refine yC_ndec ?_ ?_ | refine if_dec ?_ ?_ | refine if_ndec ?_ ?_) <;> intro hh) | simp -implicitDefEqProofs (disch := first | omega | assumption) only [go_sem, ↓reduceIte, Nat.reduceEqDiff, Int.reduceEq, Nat.reduceAdd, Nat.reduceSub, Nat.reduceMul, Nat.mul_one, Nat.one_mul, List.length_nil, List.length_cons, List.nil_append, List.cons_append, List.length_append, List.set_cons_zero, List.set_cons_succ, Nat.zero_add, Nat.sub_zero, Option.isNone_none, Option.isNone_some, Int.toNat_natCast, Nat.add_sub_cancel_left, Bool.not_true, Bool.not_false, BitVec.reduceOfInt, Int.reduceToNat, spl_2, cel2, List.take_succ_cons, List.take_zero, List.drop_succ_cons, List.drop_zero, List.drop_nil, List.take_nil] | ((with_reducible first | refine gd_bool ?_ ?_ | refine if_bool ?_ ?_ | refine qC_bool ?_ ?_ | refine piC_bool ?_ ?_ | refine zC_bool ?_ ?_ | refine zD_bool ?_ ?_ | refine yC_bool ?_ ?_) <;> intro hh) | clear hK)
  all_goals exact ⟨(), trivial, by trivial, by trivial⟩
def wayL (k : Int) : List (Int × Int) := if k = 1 then strL ++ slaL else if k = 2 then strL ++ slaL else if k = 3 then strL else if k = 4 then slaL else jmpL
def wayF (k : Int) : Bool := if k = 1 then false else if k = 2 then true else if k = 3 then true else if k = 4 then true else false
theorem way_fin {k : Int} {w : List (Int × Int)} {far : Bool} {p cap : Nat} {tl : List Value} {N : List AO} (hw : wayL k = w) (hf : wayF k = far) (hok : slOk 2 w.length (prL w) (some (tl, cap))) (hp : p < N.length) (hN : N[p]? = some (.cells (prL w ++ tl) 122)) (hip : p = 0 ∨ 1 ≤ p) :
    ∃ x : List Value × Nat, slOk 2 (wayL k).length (prL (wayL k)) (some x) ∧ VS (Tz z) 0 ([(0, .tuple #[.slice (some ⟨100 + p, 0, none⟩) w.length cap, .bool far])], N) ([(0, .tuple #[.slice (some ⟨100, 0, none⟩) (wayL k).length x.2, .bool (wayF k)])], [.cells (prL (wayL k) ++ x.1) 122]) := by
  subst hw; subst hf
  refine ⟨(tl, cap), hok, VS.mv 0 p (by decide) (by simp) hp (by simpa using hip) (by simp; omega) (by simpa using hN) (fun j h1 h2 => by simp at h1; omega) ?_ ?_⟩
  · intro o ho
    simp only [List.mem_cons, List.not_mem_nil, or_false] at ho; subst ho
    exact plO _ (pl_app (prL_pl _) hok.2.2.2)
  · refine ⟨⟨?_, ?_⟩, trivial⟩
    · simp [Fr.get, mvS]
    · refine WF_tuple.2 ?_
      simp only [List.mem_cons, List.not_mem_nil, or_false]
      rintro v (rfl | rfl)
      · exact wf_sl (by simp)
      · exact wf_bool
set_option maxHeartbeats 2000000 in
theorem ways_ok (k : Int) : FnM (Tz z) 80 [.int .i64 k] [] (fun y : List Value × Nat => slOk 2 (wayL k).length (prL (wayL k)) (some y)) (fun y => .tuple [.slice (some ⟨100, 0, none⟩) (wayL k).length y.2, .bool (wayF k)].toArray) (fun y => [.cells (prL (wayL k) ++ y.1) 122]) := by
  refine ⟨by simp [Pl.int, Pl.wf], by simp, fun _ _ o ho => ?_, CallM.shiftX (start [0, 2, 3, 4, 5, 10, 15, 18] Tryz.func80 rfl (by decide) rfl (by kernel_rfl) (by simp [Tryz.f80]) ?_)⟩
  · simp at ho; subst ho; rfl
  simp only [Tryz.f80]
  repeat' (first | ((with_reducible refine call_fr (straight_ok) [] ?_ ?_ ?_ ?_); (· kernel_rfl); (· exact trivial); (· kernel_rfl); intro xx hx; simp -implicitDefEqProofs only [fixL_eq, setAll_cons, setAll_nil, setAll_nil2, List.map_cons, List.map_nil, rn_cells, rn_ro, rn_any, rn_obj, boardL_map, mvL_map, psL_map, map_ints, List.set_cons_zero, List.set_cons_succ, List.length_cons, List.length_nil, List.drop_succ_cons, List.drop_zero, List.drop_nil, List.append_nil, List.nil_append, List.cons_append, rl_tuple, rl_int, rl_bool, rl_string, rl_ptr, rl_ptr0, rl_slice, rl_slice0, rl_agg, List.map_toArray, Array.map_empty, List.length_append, Nat.zero_add, Nat.reduceAdd, sig, Nat.reduceLT, Nat.reduceSub, ↓reduceIte, List.getElem?_cons_zero, List.getElem?_cons_succ, List.getElem?_nil, Nat.reduceAdd, Nat.add_zero, Nat.sub_self]) | ((with_reducible refine call_fr (slanting_ok) [] ?_ ?_ ?_ ?_); (· kernel_rfl); (· exact trivial); (· kernel_rfl); intro xx hx; simp -implicitDefEqProofs only [fixL_eq, setAll_cons, setAll_nil, setAll_nil2, List.map_cons, List.map_nil, rn_cells, rn_ro, rn_any, rn_obj, boardL_map, mvL_map, psL_map, map_ints, List.set_cons_zero, List.set_cons_succ, List.length_cons, List.length_nil, List.drop_succ_cons, List.drop_zero, List.drop_nil, List.append_nil, List.nil_append, List.cons_append, rl_tuple, rl_int, rl_bool, rl_string, rl_ptr, rl_ptr0, rl_slice, rl_slice0, rl_agg, List.map_toArray, Array.map_empty, List.length_append, Nat.zero_add, Nat.reduceAdd, sig, Nat.reduceLT, Nat.reduceSub, ↓reduceIte, List.getElem?_cons_zero, List.getElem?_cons_succ, List.getElem?_nil, Nat.reduceAdd, Nat.add_zero, Nat.sub_self]) | ((with_reducible refine call_fr (jumps_ok) [] ?_ ?_ ?_ ?_); (· kernel_rfl); (· exact trivial); (· kernel_rfl); intro xx hx; simp -implicitDefEqProofs only [fixL_eq, setAll_cons, setAll_nil, setAll_nil2, List.map_cons, List.map_nil, rn_cells, rn_ro, rn_any, rn_obj, boardL_map, mvL_map, psL_map, map_ints, List.set_cons_zero, List.set_cons_succ, List.length_cons, List.length_nil, List.drop_succ_cons, List.drop_zero, List.drop_nil, List.append_nil, List.nil_append, List.cons_append, rl_tuple, rl_int, rl_bool, rl_string, rl_ptr, rl_ptr0, rl_slice, rl_slice0, rl_agg, List.map_toArray, Array.map_empty, List.length_append, Nat.zero_add, Nat.reduceAdd, sig, Nat.reduceLT, Nat.reduceSub, ↓reduceIte, List.getElem?_cons_zero, List.getElem?_cons_succ, List.getElem?_nil, Nat.reduceAdd, Nat.add_zero, Nat.sub_self]) | ((with_reducible refine app_k ?_); refine app_hold (X := Tz z) (i := 0) (e := 122) (sz := 2) (b := 16) (n := 4) (m := 4) (h := some ([], 4)) (con := prL strL) (news := prL slaL) (zc := [.int .i64 0, .int .i64 0]) (by kernel_rfl) (by kernel_rfl) rfl (by simp [Pl.int]) (src_own (j := 1) rfl (by kernel_rfl) rfl) rfl rfl (by decide) rfl ⟨rfl, rfl, by decide, by simp⟩ (by decide) (by decide) (fun tl cap hcap => ⟨?_, ?_⟩)) | with_reducible refine seq_k fun K hK => ?_ | (with_reducible refine hK _ _ ?_; clear hK) | ((with_reducible first | refine gd_dec ?_ ?_ | refine gd_ndec ?_ ?_ | refine qC_dec ?_ ?_ | refine qC_ndec ?_ ?_ | refine piC_dec ?_ ?_ | refine piC_ndec ?_ ?_ | refine zC_dec ?_ ?_ | refine zC_ndec ?_ ?_ | refine zD_dec ?_ ?_ | refine yC_dec ?_ ?_ | refine yC_ndec ?_ ?_ | refine if_dec ?_ ?_ | refine if_ndec ?_ ?_) <;> intro hh) | simp -implicitDefEqProofs (disch := first | omega | assumption) only [go_sem, ↓reduceIte, Nat.reduceEqDiff, Int.reduceEq, Nat.reduceAdd, Nat.reduceSub, Nat.reduceMul, Nat.mul_one, Nat.one_mul, List.length_nil, List.length_cons, List.nil_append, List.cons_append, List.length_append, List.set_cons_zero, List.set_cons_succ, Nat.zero_add, Nat.sub_zero, Option.isNone_none, Option.isNone_some, Int.toNat_natCast, Nat.add_sub_cancel_left, Bool.not_true, Bool.not_false, BitVec.reduceOfInt, Int.reduceToNat] | ((with_reducible first | refine gd_bool ?_ ?_ | refine if_bool ?_ ?_ | refine qC_bool ?_ ?_ | refine piC_bool ?_ ?_ | refine zC_bool ?_ ?_ | refine zD_bool ?_ ?_ | refine yC_bool ?_ ?_) <;> intro hh) | clear hK)
  all_goals first
    | exact way_fin (p := 0) (w := strL ++ slaL) (by simp [wayL, *]) (by simp [wayF, *]) hcap (by simp) rfl (by decide)
    | exact way_fin (p := 2) (w := strL ++ slaL) (by simp [wayL, *]) (by simp [wayF, *]) hcap (by simp) rfl (by decide)
    | exact way_fin (p := 0) (w := strL) (tl := []) (cap := 4) (by simp [wayL, *]) (by simp [wayF, *]) ⟨rfl, rfl, by decide, by simp⟩ (by simp) rfl (by decide)
    | exact way_fin (p := 0) (w := slaL) (tl := []) (cap := 4) (by simp [wayL, *]) (by simp [wayF, *]) ⟨rfl, rfl, by decide, by simp⟩ (by simp) rfl (by decide)
    | exact way_fin (p := 0) (w := jmpL) (tl := []) (cap := 8) (by simp [wayL, *]) (by simp [wayF, *]) ⟨rfl, rfl, by decide, by simp⟩ (by simp) rfl (by decide)
end Go.Tb
end
