/-
  A part of the proof (my own): of the texts that the claim's last text rests on: parts P1, P2, G.
-/
import Derived.Test.YtigjokkakcmmdaaGreatDoorT12
import Derived.Test.YtigjokkakcmmdaaGreatDoorT14
import Derived.Test.YtigjokkakcmmdaaGreatDoorT13
set_option linter.unusedSimpArgs false
set_option linter.unusedVariables false
section
namespace Go.Tb
open Go Go.Proofs
set_option maxRecDepth 20000
theorem neg_bit : ∀ i : Fin 64, ∀ t : Fin 64, (-(2#64 * (1#64 <<< i.val))).getLsbD t.val = decide (i.val < t.val) := by decide +kernel
def btwB (x : BitVec 64) (i t : Nat) : Bool := (List.range t).any fun k => decide (i < k) && x.getLsbD k
theorem btwB_succ (x : BitVec 64) (i t : Nat) : btwB x i (t + 1) = (btwB x i t || (decide (i < t) && x.getLsbD t)) := by
  simp [btwB, List.range_succ]
theorem btwB_le {x : BitVec 64} {i : Nat} : ∀ {t : Nat}, t ≤ i + 1 → btwB x i t = false
  | 0, _ => rfl
  | t + 1, h => by rw [btwB_succ, btwB_le (by omega), decide_eq_false (by omega)]; rfl
theorem carry_btw (x : BitVec 64) {i : Nat} (hi : i < 64) : ∀ t, t ≤ 64 → BitVec.carry t x (-(2#64 * (1#64 <<< i))) false = btwB x i t
  | 0, _ => by simp [btwB, BitVec.carry_zero]
  | t + 1, h => by
    rw [BitVec.carry_succ, carry_btw x hi t (by omega), neg_bit ⟨i, hi⟩ ⟨t, by omega⟩, btwB_succ]
    show Bool.atLeastTwo _ (decide (i < t)) _ = _
    by_cases h1 : i < t
    · rw [decide_eq_true h1]; cases x.getLsbD t <;> cases btwB x i t <;> rfl
    · rw [decide_eq_false h1, btwB_le (by omega)]; simp [Bool.atLeastTwo]
theorem sub_bit (x : BitVec 64) {i t : Nat} (hi : i < 64) (ht : t < 64) : (x - 2#64 * (1#64 <<< i)).getLsbD t = (x.getLsbD t ^^ (decide (i < t) && !btwB x i t)) := by
  rw [BitVec.sub_eq_add_neg, BitVec.getLsbD_add ht, carry_btw x hi t (by omega), neg_bit ⟨i, hi⟩ ⟨t, ht⟩]
  show (_ ^^ (decide (i < t) ^^ _)) = _
  by_cases h1 : i < t
  · rw [decide_eq_true h1]; cases x.getLsbD t <;> cases btwB x i t <;> rfl
  · rw [decide_eq_false h1, btwB_le (by omega)]; rfl
def swK (n k : Nat) : Nat := if k / n % 2 = 0 then k + n else k - n
theorem sw_bit (x m : BitVec 64) {n k : Nat} (hn : 0 < n) (hk : k < 64) (hm : ∀ k, k < 64 → m.getLsbD k = decide (k / n % 2 = 0)) :
    ((x >>> n &&& m) ||| (x &&& m) <<< n).getLsbD k = x.getLsbD (swK n k) := by
  simp only [BitVec.getLsbD_or, BitVec.getLsbD_and, BitVec.getLsbD_ushiftRight, BitVec.getLsbD_shiftLeft, hk, decide_true, Bool.true_and]
  rw [hm k hk]
  unfold swK
  by_cases h : k / n % 2 = 0
  · rw [if_pos h, decide_eq_true h, Bool.and_true, Nat.add_comm n k]
    by_cases h2 : k < n
    · simp [h2]
    · have h3 : (k - n) / n % 2 ≠ 0 := by
        have : k / n = (k - n) / n + 1 := by rw [← Nat.add_div_right _ hn]; congr 1; omega
        omega
      rw [hm (k - n) (by omega), decide_eq_false h3]; simp
  · have hkn : n ≤ k := by
      rcases Nat.lt_or_ge k n with h1 | h1
      · rw [Nat.div_eq_of_lt h1] at h; exact absurd rfl h
      · exact h1
    have h3 : (k - n) / n % 2 = 0 := by
      have : k / n = (k - n) / n + 1 := by rw [← Nat.add_div_right _ hn]; congr 1; omega
      omega
    rw [if_neg h, decide_eq_false h, hm (k - n) (by omega), decide_eq_true h3]; simp; omega
theorem sw_last (x : BitVec 64) {k : Nat} (hk : k < 64) : (x >>> 32 ||| x <<< 32).getLsbD k = x.getLsbD (swK 32 k) := by
  simp only [BitVec.getLsbD_or, BitVec.getLsbD_ushiftRight, BitVec.getLsbD_shiftLeft, hk, decide_true, Bool.true_and]
  unfold swK
  by_cases h : k < 32
  · rw [if_pos (by omega), Nat.add_comm 32 k]; simp [h]
  · rw [if_neg (by omega), BitVec.getLsbD_of_ge x (32 + k) (by omega)]; simp [h]
theorem swK_all : ∀ k : Fin 64, swK 1 (swK 2 (swK 4 (swK 8 (swK 16 (swK 32 k.val))))) = 63 - k.val ∧ swK 32 k.val < 64 ∧ swK 16 (swK 32 k.val) < 64 ∧ swK 8 (swK 16 (swK 32 k.val)) < 64 ∧ swK 4 (swK 8 (swK 16 (swK 32 k.val))) < 64 ∧ swK 2 (swK 4 (swK 8 (swK 16 (swK 32 k.val)))) < 64 := by decide +kernel
theorem msk1 : ∀ k, k < 64 → (6148914691236517205#64).getLsbD k = decide (k / 1 % 2 = 0) := fun k h => (by decide +kernel : ∀ k : Fin 64, (6148914691236517205#64).getLsbD k.val = decide (k.val / 1 % 2 = 0)) ⟨k, h⟩
theorem msk2 : ∀ k, k < 64 → (3689348814741910323#64).getLsbD k = decide (k / 2 % 2 = 0) := fun k h => (by decide +kernel : ∀ k : Fin 64, (3689348814741910323#64).getLsbD k.val = decide (k.val / 2 % 2 = 0)) ⟨k, h⟩
theorem msk4 : ∀ k, k < 64 → (1085102592571150095#64).getLsbD k = decide (k / 4 % 2 = 0) := fun k h => (by decide +kernel : ∀ k : Fin 64, (1085102592571150095#64).getLsbD k.val = decide (k.val / 4 % 2 = 0)) ⟨k, h⟩
theorem msk8 : ∀ k, k < 64 → (71777214294589695#64).getLsbD k = decide (k / 8 % 2 = 0) := fun k h => (by decide +kernel : ∀ k : Fin 64, (71777214294589695#64).getLsbD k.val = decide (k.val / 8 % 2 = 0)) ⟨k, h⟩
theorem msk16 : ∀ k, k < 64 → (281470681808895#64).getLsbD k = decide (k / 16 % 2 = 0) := fun k h => (by decide +kernel : ∀ k : Fin 64, (281470681808895#64).getLsbD k.val = decide (k.val / 16 % 2 = 0)) ⟨k, h⟩
theorem rev_bit (x : BitVec 64) {k : Nat} (hk : k < 64) : (rev64 x).getLsbD k = x.getLsbD (63 - k) := by
  obtain ⟨h0, h1, h2, h3, h4, h5⟩ := swK_all ⟨k, hk⟩
  simp only at h0 h1 h2 h3 h4 h5
  simp only [rev64, revBytes]
  rw [sw_last _ hk, sw_bit _ _ (by decide) h1 msk16, sw_bit _ _ (by decide) h2 msk8, sw_bit _ _ (by decide) h3 msk4, sw_bit _ _ (by decide) h4 msk2, sw_bit _ _ (by decide) h5 msk1, h0]
theorem rev_one : ∀ i : Fin 64, rev64 (1#64 <<< i.val) = 1#64 <<< (63 - i.val) := by decide +kernel
def betw (x : BitVec 64) (i t : Nat) : Bool := if i < t then btwB x i t else btwB x t i
theorem btwB_rev (x : BitVec 64) {i t : Nat} (hi : i < 64) (ht : t < 64) : btwB (rev64 x) (63 - i) (63 - t) = btwB x t i := by
  rw [Bool.eq_iff_iff]
  simp only [btwB, List.any_eq_true, List.mem_range, Bool.and_eq_true, decide_eq_true_eq]
  constructor
  · rintro ⟨k, h1, h2, h3⟩
    rw [rev_bit x (by omega)] at h3
    exact ⟨63 - k, by omega, by omega, h3⟩
  · rintro ⟨k, h1, h2, h3⟩
    refine ⟨63 - k, by omega, by omega, ?_⟩
    rw [rev_bit x (by omega), show 63 - (63 - k) = k by omega]; exact h3
theorem lin_bit (o m : BitVec 64) {i t : Nat} (hi : i < 64) (ht : t < 64) : (linB o (1#64 <<< i) m).getLsbD t = (m.getLsbD t && decide (i ≠ t) && !betw (o &&& m) i t) := by
  unfold linB
  rw [BitVec.getLsbD_and, BitVec.getLsbD_xor, sub_bit _ hi ht, rev_bit _ ht, rev_one ⟨i, hi⟩]
  rw [sub_bit _ (by omega : 63 - i < 64) (by omega : 63 - t < 64), rev_bit _ (by omega), btwB_rev _ hi ht, show 63 - (63 - t) = t by omega]
  unfold betw
  rcases Nat.lt_trichotomy i t with h | h | h
  · rw [if_pos h, decide_eq_true h, decide_eq_false (by omega : ¬ 63 - i < 63 - t), decide_eq_true (by omega : i ≠ t)]
    cases m.getLsbD t <;> cases (o &&& m).getLsbD t <;> cases btwB (o &&& m) i t <;> rfl
  · subst h; simp
  · rw [if_neg (by omega), decide_eq_false (by omega : ¬ i < t), decide_eq_true (by omega : 63 - i < 63 - t), decide_eq_true (by omega : i ≠ t)]
    cases m.getLsbD t <;> cases (o &&& m).getLsbD t <;> cases btwB (o &&& m) t i <;> rfl
def onL : Nat → Nat → Nat → Bool
  | 0, s, t => decide (s / 8 = t / 8)
  | 1, s, t => decide (s % 8 = t % 8)
  | 2, s, t => decide (s % 8 + t / 8 = t % 8 + s / 8)
  | _, s, t => decide (s % 8 + s / 8 = t % 8 + t / 8)
theorem sgn_p {n : Int} (h : 0 < n) : sgn n = 1 := by unfold sgn; rw [if_neg (by omega), if_pos h]
theorem sgn_n {n : Int} (h : n < 0) : sgn n = -1 := by unfold sgn; rw [if_pos h]
theorem sgn_0 : sgn 0 = 0 := rfl
theorem ray_mem {y : Nat} {s t u : Nat} (hy : y < 4) (hs : s < 64) (ht : t < 64) (hl : onL y s t = true) (hn : s ≠ t) :
    (u < 64 ∧ onL y s u = true ∧ ((s < u ∧ u < t) ∨ (t < u ∧ u < s))) ↔ ∃ k : Nat, 1 ≤ k ∧ k < distOf s t ∧ (u : Int) = s + k * wayOf s t := by
  have key : ∀ w d : Int, wayOf s t = w → (distOf s t : Int) = d → ((u < 64 ∧ onL y s u = true ∧ ((s < u ∧ u < t) ∨ (t < u ∧ u < s))) ↔ ∃ k : Nat, 1 ≤ k ∧ (k : Int) < d ∧ (u : Int) = s + k * w) → ((u < 64 ∧ onL y s u = true ∧ ((s < u ∧ u < t) ∨ (t < u ∧ u < s))) ↔ ∃ k : Nat, 1 ≤ k ∧ k < distOf s t ∧ (u : Int) = s + k * wayOf s t) := fun w d e1 e2 h => by
    rw [h]
    constructor
    · rintro ⟨k, a, b, c⟩; exact ⟨k, a, by omega, by rw [e1]; exact c⟩
    · rintro ⟨k, a, b, c⟩; exact ⟨k, a, by omega, by rw [e1] at c; exact c⟩
  have hdis : (distOf s t : Int) = max (((t : Int) % 8 - s % 8).natAbs : Int) (((t : Int) / 8 - s / 8).natAbs : Int) := by unfold distOf fdif rdif; omega
  rcases y with _ | _ | _ | _ | y
  · simp only [onL, decide_eq_true_eq] at hl key ⊢
    rcases Nat.lt_or_ge s t with h | h
    · refine key 1 (t - s) ?_ (by omega) ?_; rotate_left; (clear hdis key; exact ⟨fun ⟨h1, h2, h3⟩ => ⟨u - s, by omega, by omega, by omega⟩, fun ⟨k, h1, h2, h3⟩ => by omega⟩)
      unfold wayOf; rw [sgn_p (by unfold fdif; omega), show rdif s t = 0 by unfold rdif; omega]; rfl
    · refine key (-1) (s - t) ?_ (by omega) ?_; rotate_left; (clear hdis key; exact ⟨fun ⟨h1, h2, h3⟩ => ⟨s - u, by omega, by omega, by omega⟩, fun ⟨k, h1, h2, h3⟩ => by omega⟩)
      unfold wayOf; rw [sgn_n (by unfold fdif; omega), show rdif s t = 0 by unfold rdif; omega]; rfl
  · simp only [onL, decide_eq_true_eq] at hl key ⊢
    rcases Nat.lt_or_ge s t with h | h
    · refine key 8 (t / 8 - s / 8) ?_ (by omega) ?_; rotate_left; (clear hdis key; exact ⟨fun ⟨h1, h2, h3⟩ => ⟨u / 8 - s / 8, by omega, by omega, by omega⟩, fun ⟨k, h1, h2, h3⟩ => by omega⟩)
      unfold wayOf; rw [sgn_p (n := rdif s t) (by unfold rdif; omega), show fdif s t = 0 by unfold fdif; omega]; rfl
    · refine key (-8) (s / 8 - t / 8) ?_ (by omega) ?_; rotate_left; (clear hdis key; exact ⟨fun ⟨h1, h2, h3⟩ => ⟨s / 8 - u / 8, by omega, by omega, by omega⟩, fun ⟨k, h1, h2, h3⟩ => by omega⟩)
      unfold wayOf; rw [sgn_n (n := rdif s t) (by unfold rdif; omega), show fdif s t = 0 by unfold fdif; omega]; rfl
  · simp only [onL, decide_eq_true_eq] at hl key ⊢
    rcases Nat.lt_or_ge s t with h | h
    · refine key 9 (t / 8 - s / 8) ?_ (by omega) ?_; rotate_left; (clear hdis key; exact ⟨fun ⟨h1, h2, h3⟩ => ⟨u / 8 - s / 8, by omega, by omega, by omega⟩, fun ⟨k, h1, h2, h3⟩ => by omega⟩)
      unfold wayOf; rw [sgn_p (n := rdif s t) (by unfold rdif; omega), sgn_p (n := fdif s t) (by unfold fdif; omega)]; rfl
    · refine key (-9) (s / 8 - t / 8) ?_ (by omega) ?_; rotate_left; (clear hdis key; exact ⟨fun ⟨h1, h2, h3⟩ => ⟨s / 8 - u / 8, by omega, by omega, by omega⟩, fun ⟨k, h1, h2, h3⟩ => by omega⟩)
      unfold wayOf; rw [sgn_n (n := rdif s t) (by unfold rdif; omega), sgn_n (n := fdif s t) (by unfold fdif; omega)]; rfl
  · simp only [onL, decide_eq_true_eq] at hl key ⊢
    rcases Nat.lt_or_ge s t with h | h
    · refine key 7 (t / 8 - s / 8) ?_ (by omega) ?_; rotate_left; (clear hdis key; exact ⟨fun ⟨h1, h2, h3⟩ => ⟨u / 8 - s / 8, by omega, by omega, by omega⟩, fun ⟨k, h1, h2, h3⟩ => by omega⟩)
      unfold wayOf; rw [sgn_p (n := rdif s t) (by unfold rdif; omega), sgn_n (n := fdif s t) (by unfold fdif; omega)]; rfl
    · refine key (-7) (s / 8 - t / 8) ?_ (by omega) ?_; rotate_left; (clear hdis key; exact ⟨fun ⟨h1, h2, h3⟩ => ⟨s / 8 - u / 8, by omega, by omega, by omega⟩, fun ⟨k, h1, h2, h3⟩ => by omega⟩)
      unfold wayOf; rw [sgn_n (n := rdif s t) (by unfold rdif; omega), sgn_p (n := fdif s t) (by unfold fdif; omega)]; rfl
  · omega
theorem onL_0 {s t : Nat} : onL 0 s t = true ↔ rdif s t = 0 := by simp only [onL, decide_eq_true_eq, rdif]; omega
theorem onL_1 {s t : Nat} : onL 1 s t = true ↔ fdif s t = 0 := by simp only [onL, decide_eq_true_eq, fdif]; omega
theorem onL_2 {s t : Nat} : onL 2 s t = true ↔ fdif s t = rdif s t := by simp only [onL, decide_eq_true_eq, fdif, rdif]; omega
theorem onL_3 {s t : Nat} : onL 3 s t = true ↔ fdif s t = -rdif s t := by simp only [onL, decide_eq_true_eq, fdif, rdif]; omega
theorem onL_ray {y s t : Nat} (hy : y < 4) (h : onL y s t = true) : onRay s t := by
  unfold onRay
  rcases y with _ | _ | _ | _ | y
  · exact .inr (.inl (onL_0.1 h))
  · exact .inl (onL_1.1 h)
  · exact .inr (.inr (.inl (onL_2.1 h)))
  · exact .inr (.inr (.inr (onL_3.1 h)))
  · omega
theorem onL_sym {y s t : Nat} (hy : y < 4) (h : onL y s t = true) : onL y t s = true := by
  rcases y with _ | _ | _ | _ | y <;> simp only [onL, decide_eq_true_eq] at h ⊢ <;> omega
theorem onL_tr {y s t u : Nat} (hy : y < 4) (h : onL y s t = true) (h2 : onL y t u = true) : onL y s u = true := by
  rcases y with _ | _ | _ | _ | y <;> simp only [onL, decide_eq_true_eq] at h h2 ⊢ <;> omega
theorem tab_dia : ∀ s t : Fin 64, occB (tabB bbDiagonals s.val) t.val = onL 2 s.val t.val := by decide +kernel
theorem tab_anti : ∀ s t : Fin 64, occB (tabB bbAntiDiagonals s.val) t.val = onL 3 s.val t.val := by decide +kernel
theorem tab_rank : ∀ s t : Fin 64, occB (tabB bbRanks (s.val / 8)) t.val = onL 0 s.val t.val := by decide +kernel
theorem tab_file : ∀ s t : Fin 64, occB (tabB bbFiles (s.val % 8)) t.val = onL 1 s.val t.val := by decide +kernel
theorem tab_knight : ∀ s t : Fin 64, occB (tabB bbKnightMoves s.val) t.val = decide (fdif s.val t.val * fdif s.val t.val + rdif s.val t.val * rdif s.val t.val = 5) := by decide +kernel
theorem tab_king : ∀ s t : Fin 64, occB (tabB bbKingMoves s.val) t.val = (decide (s.val ≠ t.val) && decide (fdif s.val t.val * fdif s.val t.val ≤ 1) && decide (rdif s.val t.val * rdif s.val t.val ≤ 1)) := by decide +kernel
theorem occ_nat (x : BitVec 64) {s : Nat} (h : s < 64) : occB x s = x.getLsbD (63 - s) := by
  unfold occB; congr 1; omega
theorem sqB_nat {s : Nat} (h : s < 64) : sqB s = 1#64 <<< (63 - s) := by
  unfold sqB; congr 1; omega
theorem betw_iff (x : BitVec 64) {s t : Nat} (hs : s < 64) (ht : t < 64) : betw x (63 - s) (63 - t) = true ↔ ∃ u : Nat, u < 64 ∧ ((s < u ∧ u < t) ∨ (t < u ∧ u < s)) ∧ occB x u = true := by
  unfold betw
  split
  · simp only [btwB, List.any_eq_true, List.mem_range, Bool.and_eq_true, decide_eq_true_eq]
    constructor
    · rintro ⟨k, h1, h2, h3⟩
      refine ⟨63 - k, by omega, by omega, ?_⟩
      rw [occ_nat _ (by omega), show 63 - (63 - k) = k by omega]; exact h3
    · rintro ⟨u, h1, h2, h3⟩
      rw [occ_nat _ h1] at h3
      exact ⟨63 - u, by omega, by omega, h3⟩
  · simp only [btwB, List.any_eq_true, List.mem_range, Bool.and_eq_true, decide_eq_true_eq]
    constructor
    · rintro ⟨k, h1, h2, h3⟩
      refine ⟨63 - k, by omega, by omega, ?_⟩
      rw [occ_nat _ (by omega), show 63 - (63 - k) = k by omega]; exact h3
    · rintro ⟨u, h1, h2, h3⟩
      rw [occ_nat _ h1] at h3
      exact ⟨63 - u, by omega, by omega, h3⟩
theorem occ_and (x y : BitVec 64) (s : Int) : occB (x &&& y) s = (occB x s && occB y s) := by simp [occB]
theorem occ_or (x y : BitVec 64) (s : Int) : occB (x ||| y) s = (occB x s || occB y s) := by simp [occB]
theorem occ_not (x : BitVec 64) {s : Nat} (h : s < 64) : occB (~~~x) s = !occB x s := by
  rw [occ_nat _ h, occ_nat _ h, BitVec.getLsbD_not]; simp; omega
theorem occ_ext {x y : BitVec 64} (h : ∀ s : Nat, s < 64 → occB x s = occB y s) : x = y := by
  apply BitVec.eq_of_getLsbD_eq
  intro i hi
  have := h (63 - i) (by omega)
  rw [occ_nat _ (by omega), occ_nat _ (by omega), show 63 - (63 - i) = i by omega] at this
  exact this
theorem occ_zero (s : Int) : occB 0#64 s = false := by simp [occB]
theorem occ_sq {s t : Nat} (hs : s < 64) (ht : t < 64) : occB (sqB s) t = decide (s = t) := by
  rw [occ_nat _ ht, sqB_nat hs]
  have : ∀ i j : Fin 64, (1#64 <<< i.val).getLsbD j.val = decide (i.val = j.val) := by decide +kernel
  rw [this ⟨63 - s, by omega⟩ ⟨63 - t, by omega⟩]
  exact decide_eq_decide.2 (by simp only; omega)
theorem z_iff {x : BitVec 64} : x = 0#64 ↔ ∀ s : Nat, s < 64 → occB x s = false :=
  ⟨fun h s _ => by rw [h, occ_zero], fun h => occ_ext fun s hs => by rw [h s hs, occ_zero]⟩
theorem nz_and {x y : BitVec 64} : (!decide (x &&& y = 0#64)) = true ↔ ∃ s : Nat, s < 64 ∧ occB x s = true ∧ occB y s = true := by
  rw [Bool.not_eq_true', decide_eq_false_iff_not, z_iff]
  constructor
  · intro h
    refine Classical.byContradiction fun h0 => h fun s hs => ?_
    cases hx : occB (x &&& y) s
    · rfl
    · rw [occ_and, Bool.and_eq_true] at hx
      exact absurd ⟨s, hs, hx⟩ h0
  · rintro ⟨s, hs, h1, h2⟩ h
    have := h s hs
    rw [occ_and, h1, h2] at this; cases this
theorem line_iff {c : Nat → Int} {o m : BitVec 64} {y s t : Nat} (hy : y < 4) (hs : s < 64) (ht : t < 64) (ho : ∀ u : Nat, u < 64 → occB o u = decide (c u ≠ 0)) (hm : ∀ u : Nat, u < 64 → occB m u = onL y s u) :
    occB (linB o (sqB s) m) t = true ↔ onL y s t = true ∧ s ≠ t ∧ clearP c s t (distOf s t) := by
  rw [occ_nat _ ht, sqB_nat hs, lin_bit o m (by omega) (by omega), Bool.and_eq_true, Bool.and_eq_true, decide_eq_true_eq, Bool.not_eq_true', ← occ_nat _ ht, hm t ht]
  constructor
  · rintro ⟨⟨h1, h2⟩, h3⟩
    have hn : s ≠ t := by omega
    refine ⟨h1, hn, fun k k1 k2 => ?_⟩
    have hr := ray (i := s) (j := t) (by omega) (by omega) (onL_ray hy h1) (by omega) k (by omega)
    obtain ⟨u, hu⟩ : ∃ u : Nat, (u : Int) = s + k * wayOf s t := ⟨((s : Int) + k * wayOf s t).toNat, by omega⟩
    obtain ⟨q1, q2, q3⟩ := (ray_mem (u := u) hy hs ht h1 hn).2 ⟨k, k1, k2, hu⟩
    rw [← hu, Int.toNat_natCast]
    refine Classical.byContradiction fun hc => ?_
    have : betw (o &&& m) (63 - s) (63 - t) = true := (betw_iff _ hs ht).2 ⟨u, q1, q3, by rw [occ_and, ho u q1, hm u q1, q2, decide_eq_true hc]; rfl⟩
    rw [h3] at this; cases this
  · rintro ⟨h1, hn, h3⟩
    refine ⟨⟨h1, by omega⟩, ?_⟩
    cases hb : betw (o &&& m) (63 - s) (63 - t)
    · rfl
    · obtain ⟨u, q1, q2, q3⟩ := (betw_iff _ hs ht).1 hb
      rw [occ_and, ho u q1, hm u q1, Bool.and_eq_true, decide_eq_true_eq] at q3
      obtain ⟨k, k1, k2, k3⟩ := (ray_mem (u := u) hy hs ht h1 hn).1 ⟨q1, q3.2, q2⟩
      have := h3 k k1 k2
      rw [← k3, Int.toNat_natCast] at this
      exact absurd this q3.1
theorem clear_sym {c : Nat → Int} {y s t : Nat} (hy : y < 4) (hs : s < 64) (ht : t < 64) (h1 : onL y s t = true) (hn : s ≠ t) (h : clearP c s t (distOf s t)) : clearP c t s (distOf t s) := by
  intro k k1 k2
  have h1' := onL_sym hy h1
  have hr := ray (i := t) (j := s) (by omega) (by omega) (onL_ray hy h1') (by omega) k (by omega)
  obtain ⟨u, hu⟩ : ∃ u : Nat, (u : Int) = t + k * wayOf t s := ⟨((t : Int) + k * wayOf t s).toNat, by omega⟩
  obtain ⟨q1, q2, q3⟩ := (ray_mem (u := u) hy ht hs h1' (by omega)).2 ⟨k, k1, k2, hu⟩
  obtain ⟨k', a, b, e⟩ := (ray_mem (u := u) hy hs ht h1 hn).1 ⟨q1, onL_tr hy h1 q2, by omega⟩
  rw [← hu, e]; exact h k' a b
theorem hv_iff {c : Nat → Int} {o : BitVec 64} {s t : Nat} (hs : s < 64) (ht : t < 64) (ho : ∀ u : Nat, u < 64 → occB o u = decide (c u ≠ 0)) :
    occB (hvB o s) t = true ↔ (fdif s t = 0 ∨ rdif s t = 0) ∧ s ≠ t ∧ clearP c s t (distOf s t) := by
  unfold hvB
  rw [show ((s : Int) / 8).toNat = s / 8 by omega, show ((s : Int) % 8).toNat = s % 8 by omega, occ_or, Bool.or_eq_true,
    line_iff (y := 0) (by decide) hs ht ho (fun u hu => tab_rank ⟨s, hs⟩ ⟨u, hu⟩), line_iff (y := 1) (by decide) hs ht ho (fun u hu => tab_file ⟨s, hs⟩ ⟨u, hu⟩), onL_0, onL_1]
  constructor
  · rintro (⟨a, b⟩ | ⟨a, b⟩)
    · exact ⟨.inr a, b⟩
    · exact ⟨.inl a, b⟩
  · rintro ⟨a | a, b⟩
    · exact .inr ⟨a, b⟩
    · exact .inl ⟨a, b⟩
theorem dia_iff {c : Nat → Int} {o : BitVec 64} {s t : Nat} (hs : s < 64) (ht : t < 64) (ho : ∀ u : Nat, u < 64 → occB o u = decide (c u ≠ 0)) :
    occB (diaB o s) t = true ↔ (fdif s t = rdif s t ∨ fdif s t = -rdif s t) ∧ s ≠ t ∧ clearP c s t (distOf s t) := by
  unfold diaB
  rw [Int.toNat_natCast, occ_or, Bool.or_eq_true,
    line_iff (y := 2) (by decide) hs ht ho (fun u hu => tab_dia ⟨s, hs⟩ ⟨u, hu⟩), line_iff (y := 3) (by decide) hs ht ho (fun u hu => tab_anti ⟨s, hs⟩ ⟨u, hu⟩), onL_2, onL_3]
  constructor
  · rintro (⟨a, b⟩ | ⟨a, b⟩)
    · exact ⟨.inl a, b⟩
    · exact ⟨.inr a, b⟩
  · rintro ⟨a | a, b⟩
    · exact .inl ⟨a, b⟩
    · exact .inr ⟨a, b⟩
end Go.Tb
end
section
namespace Go.Tb
open Go Go.Proofs
set_option maxRecDepth 20000
structure RepB (c : Nat → Int) (B : Brd) : Prop where
  f : ∀ k : Nat, k < 12 → ∀ s : Nat, s < 64 → occB (B.f k) s = decide (c s = (k : Int) + 1)
  w : B.w = whiteOf B
  b : B.b = blackOf B
  e : B.e = ~~~(whiteOf B ||| blackOf B)
  wks : B.wks = kingI c 0
  bks : B.bks = kingI c 1
section
variable {c : Nat → Int} {B : Brd}
theorem occ_white (h : RepB c B) {s : Nat} (hs : s < 64) : occB (whiteOf B) s = decide (1 ≤ c s ∧ c s ≤ 6) := by
  have h0 : occB B.wk s = _ := h.f 0 (by decide) s hs
  have h1 : occB B.wq s = _ := h.f 1 (by decide) s hs
  have h2 : occB B.wr s = _ := h.f 2 (by decide) s hs
  have h3 : occB B.wb s = _ := h.f 3 (by decide) s hs
  have h4 : occB B.wn s = _ := h.f 4 (by decide) s hs
  have h5 : occB B.wp s = _ := h.f 5 (by decide) s hs
  rw [whiteOf, occ_or, occ_or, occ_or, occ_or, occ_or, h0, h1, h2, h3, h4, h5, Bool.eq_iff_iff]
  simp only [Bool.or_eq_true, decide_eq_true_eq]; omega
theorem occ_black (h : RepB c B) {s : Nat} (hs : s < 64) : occB (blackOf B) s = decide (7 ≤ c s ∧ c s ≤ 12) := by
  have h0 : occB B.bk s = _ := h.f 6 (by decide) s hs
  have h1 : occB B.bq s = _ := h.f 7 (by decide) s hs
  have h2 : occB B.br s = _ := h.f 8 (by decide) s hs
  have h3 : occB B.bb s = _ := h.f 9 (by decide) s hs
  have h4 : occB B.bn s = _ := h.f 10 (by decide) s hs
  have h5 : occB B.bp s = _ := h.f 11 (by decide) s hs
  rw [blackOf, occ_or, occ_or, occ_or, occ_or, occ_or, h0, h1, h2, h3, h4, h5, Bool.eq_iff_iff]
  simp only [Bool.or_eq_true, decide_eq_true_eq]; omega
theorem occ_empty (h : RepB c B) (hb : Bd c) {s : Nat} (hs : s < 64) : occB B.e s = decide (c s = 0) := by
  have := hb s hs
  rw [h.e, occ_not _ hs, occ_or, occ_white h hs, occ_black h hs, Bool.eq_iff_iff]
  simp only [Bool.not_eq_true', Bool.or_eq_false_iff, decide_eq_false_iff_not, decide_eq_true_eq]; omega
theorem occ_full (h : RepB c B) (hb : Bd c) {s : Nat} (hs : s < 64) : occB (~~~B.e) s = decide (c s ≠ 0) := by
  rw [occ_not _ hs, occ_empty h hb hs, Bool.eq_iff_iff]; simp
theorem occ_get (h : RepB c B) {p : Int} (h1 : 1 ≤ p ∧ p ≤ 12) {s : Nat} (hs : s < 64) : occB (getP B p) s = decide (c s = p) := by
  unfold getP
  rw [if_pos h1.1, h.f (p - 1).toNat (by omega) s hs]
  exact decide_eq_decide.2 (by omega)
end
theorem occ_shl (x : BitVec 64) (n : Nat) {s : Nat} (hs : s < 64) : occB (x <<< n) s = (decide (s + n < 64) && occB x ((s + n : Nat) : Int)) := by
  rw [occ_nat _ hs, BitVec.getLsbD_shiftLeft]
  by_cases h : s + n < 64
  · rw [occ_nat _ h, decide_eq_true h, decide_eq_true (by omega : 63 - s < 64), decide_eq_false (by omega : ¬ 63 - s < n), show 63 - s - n = 63 - (s + n) by omega]; rfl
  · rw [decide_eq_false h, decide_eq_true (by omega : 63 - s < n)]; simp
theorem occ_shr (x : BitVec 64) (n : Nat) {s : Nat} (hs : s < 64) : occB (x >>> n) s = (decide (n ≤ s) && occB x ((s - n : Nat) : Int)) := by
  rw [occ_nat _ hs, BitVec.getLsbD_ushiftRight]
  by_cases h : n ≤ s
  · rw [occ_nat _ (by omega), decide_eq_true h, show n + (63 - s) = 63 - (s - n) by omega]; rfl
  · rw [decide_eq_false h, BitVec.getLsbD_of_ge x _ (by omega)]; rfl
theorem mk_notH {s : Nat} (hs : s < 64) : occB 18374403900871474942#64 s = decide (s % 8 ≠ 7) := (by decide +kernel : ∀ s : Fin 64, occB 18374403900871474942#64 s.val = decide (s.val % 8 ≠ 7)) ⟨s, hs⟩
theorem mk_notA {s : Nat} (hs : s < 64) : occB 9187201950435737471#64 s = decide (s % 8 ≠ 0) := (by decide +kernel : ∀ s : Fin 64, occB 9187201950435737471#64 s.val = decide (s.val % 8 ≠ 0)) ⟨s, hs⟩
theorem mk_not1 {s : Nat} (hs : s < 64) : occB 72057594037927935#64 s = decide (8 ≤ s) := (by decide +kernel : ∀ s : Fin 64, occB 72057594037927935#64 s.val = decide (8 ≤ s.val)) ⟨s, hs⟩
theorem mk_not8 {s : Nat} (hs : s < 64) : occB 18446744073709551360#64 s = decide (s < 56) := (by decide +kernel : ∀ s : Fin 64, occB 18446744073709551360#64 s.val = decide (s.val < 56)) ⟨s, hs⟩
theorem sq1 {x : Int} : x * x = 1 ↔ x = 1 ∨ x = -1 := by
  constructor
  · intro h
    have := congrArg Int.natAbs h
    rw [Int.natAbs_mul] at this
    have := Nat.eq_one_of_mul_eq_one_right this
    omega
  · rintro (rfl | rfl) <;> rfl
theorem and_dec {p q : Prop} [Decidable p] [Decidable q] : (decide p && decide q) = decide (p ∧ q) := by by_cases hp : p <;> by_cases hq : q <;> simp [hp, hq]
theorem or_dec {p q : Prop} [Decidable p] [Decidable q] : (decide p || decide q) = decide (p ∨ q) := by by_cases hp : p <;> by_cases hq : q <;> simp [hp, hq]
section
variable {c : Nat → Int} {B : Brd}
theorem occ_sl {x : BitVec 64} {P : Nat → Prop} [DecidablePred P] (n : Nat) {s : Nat} (hs : s < 64) (h : ∀ u : Nat, u < 64 → occB x u = decide (P u)) : occB (x <<< n) s = true ↔ s + n < 64 ∧ P (s + n) := by
  rw [occ_shl _ _ hs, Bool.and_eq_true, decide_eq_true_eq]
  exact ⟨fun ⟨a, b⟩ => ⟨a, by rw [h _ a] at b; exact of_decide_eq_true b⟩, fun ⟨a, b⟩ => ⟨a, by rw [h _ a]; exact decide_eq_true b⟩⟩
theorem occ_sr {x : BitVec 64} {P : Nat → Prop} [DecidablePred P] (n : Nat) {s : Nat} (hs : s < 64) (h : ∀ u : Nat, u < 64 → occB x u = decide (P u)) : occB (x >>> n) s = true ↔ n ≤ s ∧ P (s - n) := by
  rw [occ_shr _ _ hs, Bool.and_eq_true, decide_eq_true_eq]
  exact ⟨fun ⟨a, b⟩ => ⟨a, by rw [h _ (by omega)] at b; exact of_decide_eq_true b⟩, fun ⟨a, b⟩ => ⟨a, by rw [h _ (by omega)]; exact decide_eq_true b⟩⟩
theorem pawnA_iff (h : RepB c B) {t : Int} (ht : t = 1 ∨ t = 2) {s : Nat} (hs : s < 64) : occB (pawnA B t) s = true ↔ ∃ i : Nat, i < 64 ∧ c i = 6 + 6 * (2 - t) ∧ fdif i s * fdif i s = 1 ∧ rdif i s = upOf (2 - t) := by
  have hw : ∀ u : Nat, u < 64 → occB B.wp u = decide (c u = 6) := fun u hu => h.f 5 (by decide) u hu
  have hb : ∀ u : Nat, u < 64 → occB B.bp u = decide (c u = 12) := fun u hu => h.f 11 (by decide) u hu
  simp only [sq1]
  rcases ht with rfl | rfl
  · have e1 := occ_sl (P := fun u => (c u = 12 ∧ u % 8 ≠ 7) ∧ 8 ≤ u) 7 hs (x := B.bp &&& 18374403900871474942#64 &&& 72057594037927935#64) fun u hu => by rw [occ_and, occ_and, hb u hu, mk_notH hu, mk_not1 hu, and_dec, and_dec]
    have e2 := occ_sl (P := fun u => (c u = 12 ∧ u % 8 ≠ 0) ∧ 8 ≤ u) 9 hs (x := B.bp &&& 9187201950435737471#64 &&& 72057594037927935#64) fun u hu => by rw [occ_and, occ_and, hb u hu, mk_notA hu, mk_not1 hu, and_dec, and_dec]
    rw [pawnA, if_pos rfl, occ_or, Bool.or_eq_true, e1, e2]
    constructor
    · rintro (⟨a, ⟨b, d⟩, e⟩ | ⟨a, ⟨b, d⟩, e⟩)
      · exact ⟨s + 7, a, by rw [b]; rfl, by unfold fdif; omega, by unfold rdif upOf; omega⟩
      · exact ⟨s + 9, a, by rw [b]; rfl, by unfold fdif; omega, by unfold rdif upOf; omega⟩
    · rintro ⟨i, hi, hc, hf, hr⟩
      unfold fdif at hf; unfold rdif upOf at hr
      rcases hf with hf | hf
      · left; refine ⟨by omega, ⟨?_, by omega⟩, by omega⟩; rw [show s + 7 = i by omega, hc]; rfl
      · right; refine ⟨by omega, ⟨?_, by omega⟩, by omega⟩; rw [show s + 9 = i by omega, hc]; rfl
  · have e1 := occ_sr (P := fun u => (c u = 6 ∧ u % 8 ≠ 7) ∧ u < 56) 9 hs (x := B.wp &&& 18374403900871474942#64 &&& 18446744073709551360#64) fun u hu => by rw [occ_and, occ_and, hw u hu, mk_notH hu, mk_not8 hu, and_dec, and_dec]
    have e2 := occ_sr (P := fun u => (c u = 6 ∧ u % 8 ≠ 0) ∧ u < 56) 7 hs (x := B.wp &&& 9187201950435737471#64 &&& 18446744073709551360#64) fun u hu => by rw [occ_and, occ_and, hw u hu, mk_notA hu, mk_not8 hu, and_dec, and_dec]
    rw [pawnA, if_neg (by decide), occ_or, Bool.or_eq_true, e1, e2]
    constructor
    · rintro (⟨a, ⟨b, d⟩, e⟩ | ⟨a, ⟨b, d⟩, e⟩)
      · exact ⟨s - 9, by omega, by rw [b]; rfl, by unfold fdif; omega, by unfold rdif upOf; omega⟩
      · exact ⟨s - 7, by omega, by rw [b]; rfl, by unfold fdif; omega, by unfold rdif upOf; omega⟩
    · rintro ⟨i, hi, hc, hf, hr⟩
      unfold fdif at hf; unfold rdif upOf at hr
      rcases hf with hf | hf
      · left; refine ⟨by omega, ⟨?_, by omega⟩, by omega⟩; rw [show s - 9 = i by omega, hc]; rfl
      · right; refine ⟨by omega, ⟨?_, by omega⟩, by omega⟩; rw [show s - 7 = i by omega, hc]; rfl
theorem kn_iff {s i : Nat} (hs : s < 64) (hi : i < 64) : occB (tabB bbKnightMoves (s : Int).toNat) i = true ↔ fdif i s * fdif i s + rdif i s * rdif i s = 5 := by
  rw [Int.toNat_natCast, tab_knight ⟨s, hs⟩ ⟨i, hi⟩, decide_eq_true_eq]
  have e1 : fdif (s : Nat) (i : Nat) = -fdif i s := by unfold fdif; omega
  have e2 : rdif (s : Nat) (i : Nat) = -rdif i s := by unfold rdif; omega
  simp only [e1, e2, Int.neg_mul_neg]
theorem ki_iff {s i : Nat} (hs : s < 64) (hi : i < 64) : occB (tabB bbKingMoves (s : Int).toNat) i = true ↔ (i : Int) ≠ s ∧ fdif i s * fdif i s ≤ 1 ∧ rdif i s * rdif i s ≤ 1 := by
  rw [Int.toNat_natCast, tab_king ⟨s, hs⟩ ⟨i, hi⟩, Bool.and_eq_true, Bool.and_eq_true, decide_eq_true_eq, decide_eq_true_eq, decide_eq_true_eq]
  have e1 : fdif (s : Nat) (i : Nat) = -fdif i s := by unfold fdif; omega
  have e2 : rdif (s : Nat) (i : Nat) = -rdif i s := by unfold rdif; omega
  simp only [e1, e2, Int.neg_mul_neg]
  constructor
  · rintro ⟨⟨a, b⟩, d⟩; exact ⟨by omega, b, d⟩
  · rintro ⟨a, b, d⟩; exact ⟨⟨by omega, b⟩, d⟩
theorem hv_iff' {o : BitVec 64} {s i : Nat} (hs : s < 64) (hi : i < 64) (ho : ∀ u : Nat, u < 64 → occB o u = decide (c u ≠ 0)) :
    occB (hvB o s) i = true ↔ (fdif i s = 0 ∨ rdif i s = 0) ∧ (i : Int) ≠ s ∧ clearP c i s (distOf i s) := by
  rw [hv_iff hs hi ho]
  constructor
  · rintro ⟨a, b, d⟩
    refine ⟨by rcases a with a | a; (left; unfold fdif at *; omega); (right; unfold rdif at *; omega), by omega, ?_⟩
    rcases a with a | a
    · exact clear_sym (y := 1) (by decide) hs hi (onL_1.2 a) b d
    · exact clear_sym (y := 0) (by decide) hs hi (onL_0.2 a) b d
  · rintro ⟨a, b, d⟩
    refine ⟨by rcases a with a | a; (left; unfold fdif at *; omega); (right; unfold rdif at *; omega), by omega, ?_⟩
    rcases a with a | a
    · exact clear_sym (y := 1) (by decide) hi hs (onL_1.2 a) (by omega) d
    · exact clear_sym (y := 0) (by decide) hi hs (onL_0.2 a) (by omega) d
theorem dia_iff' {o : BitVec 64} {s i : Nat} (hs : s < 64) (hi : i < 64) (ho : ∀ u : Nat, u < 64 → occB o u = decide (c u ≠ 0)) :
    occB (diaB o s) i = true ↔ (fdif i s = rdif i s ∨ fdif i s = -rdif i s) ∧ (i : Int) ≠ s ∧ clearP c i s (distOf i s) := by
  rw [dia_iff hs hi ho]
  constructor
  · rintro ⟨a, b, d⟩
    refine ⟨by rcases a with a | a; (left; unfold fdif rdif at *; omega); (right; unfold fdif rdif at *; omega), by omega, ?_⟩
    rcases a with a | a
    · exact clear_sym (y := 2) (by decide) hs hi (onL_2.2 a) b d
    · exact clear_sym (y := 3) (by decide) hs hi (onL_3.2 a) b d
  · rintro ⟨a, b, d⟩
    refine ⟨by rcases a with a | a; (left; unfold fdif rdif at *; omega); (right; unfold fdif rdif at *; omega), by omega, ?_⟩
    rcases a with a | a
    · exact clear_sym (y := 2) (by decide) hi hs (onL_2.2 a) (by omega) d
    · exact clear_sym (y := 3) (by decide) hi hs (onL_3.2 a) (by omega) d
theorem clear_1 {i s : Int} {n : Nat} (h : n ≤ 1) : clearP c i s n := fun k h1 h2 => by omega
theorem sqle1 {x : Int} (h : x * x ≤ 1) : -1 ≤ x ∧ x ≤ 1 := by
  by_cases h2 : -1 ≤ x ∧ x ≤ 1
  · exact h2
  · exfalso
    have h3 : 4 ≤ x * x := by
      rcases (by omega : 2 ≤ x ∨ 2 ≤ -x) with h4 | h4
      · have := Int.mul_le_mul h4 h4 (by omega) (by omega); omega
      · have := Int.mul_le_mul h4 h4 (by omega) (by omega); rw [Int.neg_mul_neg] at this; omega
    omega
def attK (c : Nat → Int) (b : Int) (s i : Nat) : Prop :=
  (c i = 2 + 6 * b ∧ ((fdif i s = rdif i s ∨ fdif i s = -rdif i s) ∨ (fdif i s = 0 ∨ rdif i s = 0)) ∧ (i : Int) ≠ s ∧ clearP c i s (distOf i s)) ∨
  (c i = 3 + 6 * b ∧ (fdif i s = 0 ∨ rdif i s = 0) ∧ (i : Int) ≠ s ∧ clearP c i s (distOf i s)) ∨
  (c i = 4 + 6 * b ∧ (fdif i s = rdif i s ∨ fdif i s = -rdif i s) ∧ (i : Int) ≠ s ∧ clearP c i s (distOf i s)) ∨
  (c i = 5 + 6 * b ∧ fdif i s * fdif i s + rdif i s * rdif i s = 5) ∨
  (c i = 6 + 6 * b ∧ fdif i s * fdif i s = 1 ∧ rdif i s = upOf b) ∨
  (c i = 1 + 6 * b ∧ (i : Int) ≠ s ∧ fdif i s * fdif i s ≤ 1 ∧ rdif i s * rdif i s ≤ 1)
theorem hits_attK (hb : Bd c) {b : Int} (hb2 : b = 0 ∨ b = 1) {s i : Nat} (hi : i < 64) : (c i ≠ 0 ∧ sideOf (c i) = b ∧ hitsP c i s) ↔ attK c b s i := by
  have hbd := hb i hi
  have hk : ∀ k : Int, 1 ≤ k ∧ k ≤ 6 → c i = k + 6 * b → kindOf (c i) = k ∧ sideOf (c i) = b ∧ c i ≠ 0 := fun k h1 h2 => by
    unfold kindOf sideOf
    rcases hb2 with rfl | rfl
    · rw [if_neg (by omega), if_neg (by omega)]; omega
    · rw [if_pos (by omega), if_pos (by omega)]; omega
  constructor
  · rintro ⟨h0, hs, h1, _, h2⟩
    rw [Int.toNat_natCast] at h2
    have hc : ∃ k : Int, (1 ≤ k ∧ k ≤ 6) ∧ c i = k + 6 * b := ⟨c i - 6 * b, by unfold sideOf at hs; split at hs <;> omega, by omega⟩
    obtain ⟨k, hk1, hk2⟩ := hc
    have hkk := (hk k hk1 hk2).1
    have hcs : k = 1 ∨ k = 2 ∨ k = 3 ∨ k = 4 ∨ k = 5 ∨ k = 6 := by omega
    unfold attK
    rcases hcs with rfl | rfl | rfl | rfl | rfl | rfl <;> simp [hkk, strP, slaP] at h2
    · exact .inr (.inr (.inr (.inr (.inr ⟨hk2, h1, h2⟩))))
    · exact .inl ⟨hk2, h2.1.symm, h1, h2.2⟩
    · exact .inr (.inl ⟨hk2, h2.1, h1, h2.2⟩)
    · exact .inr (.inr (.inl ⟨hk2, h2.1, h1, h2.2⟩))
    · exact .inr (.inr (.inr (.inl ⟨hk2, h2⟩)))
    · rw [hs] at h2
      exact .inr (.inr (.inr (.inr (.inl ⟨hk2, h2⟩))))
  · intro h
    have hne : ∀ x y : Int, x * x + y * y = 5 → ¬ (x = 0 ∧ y = 0) := by rintro x y h ⟨rfl, rfl⟩; simp at h
    rcases h with ⟨h1, h2, h3, h4⟩ | ⟨h1, h2, h3, h4⟩ | ⟨h1, h2, h3, h4⟩ | ⟨h1, h2⟩ | ⟨h1, h2, h3⟩ | ⟨h1, h2, h3⟩
    · obtain ⟨q1, q2, q3⟩ := hk 2 (by omega) h1
      refine ⟨q3, q2, h3, by simpa using q3, ?_⟩
      rw [Int.toNat_natCast]; simp [q1, strP, slaP]; exact ⟨h2.symm, h4⟩
    · obtain ⟨q1, q2, q3⟩ := hk 3 (by omega) h1
      refine ⟨q3, q2, h3, by simpa using q3, ?_⟩
      rw [Int.toNat_natCast]; simp [q1, strP, slaP]; exact ⟨h2, h4⟩
    · obtain ⟨q1, q2, q3⟩ := hk 4 (by omega) h1
      refine ⟨q3, q2, h3, by simpa using q3, ?_⟩
      rw [Int.toNat_natCast]; simp [q1, strP, slaP]; exact ⟨h2, h4⟩
    · obtain ⟨q1, q2, q3⟩ := hk 5 (by omega) h1
      refine ⟨q3, q2, fun e => hne _ _ h2 (by unfold fdif rdif; omega), by simpa using q3, ?_⟩
      rw [Int.toNat_natCast]; simp [q1]; exact h2
    · obtain ⟨q1, q2, q3⟩ := hk 6 (by omega) h1
      refine ⟨q3, q2, fun e => ?_, by simpa using q3, ?_⟩
      · rw [sq1] at h2; unfold fdif at h2; omega
      · rw [Int.toNat_natCast]; simp [q1, q2]; exact ⟨h2, h3⟩
    · obtain ⟨q1, q2, q3⟩ := hk 1 (by omega) h1
      refine ⟨q3, q2, h2, by simpa using q3, ?_⟩
      rw [Int.toNat_natCast]; simp [q1]; exact h3
theorem attB_iff {s b : Int} : attB c s b = true ↔ ∃ i : Nat, i < 64 ∧ c i ≠ 0 ∧ sideOf (c i) = b ∧ hitsP c i s := by
  unfold attB
  simp only [List.any_eq_true, List.mem_range, Bool.and_eq_true, decide_eq_true_eq, hitsB_iff]
  exact ⟨fun ⟨i, h1, ⟨h2, h3⟩, h4⟩ => ⟨i, h1, h2, h3, h4⟩, fun ⟨i, h1, h2, h3, h4⟩ => ⟨i, h1, ⟨h2, h3⟩, h4⟩⟩
theorem attS_iff (h : RepB c B) (hb : Bd c) {t : Int} (ht : t = 1 ∨ t = 2) {s : Nat} (hs : s < 64) : attS B t s = attB c s (2 - t) := by
  have ho := fun u hu => occ_full h hb (s := u) hu
  have hop : ∀ u : Nat, u < 64 → (occB (if t = 2 then B.w else B.b) u = true ↔ c u ≠ 0 ∧ sideOf (c u) = 2 - t) := fun u hu => by
    have := hb u hu
    rcases ht with rfl | rfl
    · rw [if_neg (by decide), h.b, occ_black h hu, decide_eq_true_eq]; unfold sideOf; split <;> omega
    · rw [if_pos rfl, h.w, occ_white h hu, decide_eq_true_eq]; unfold sideOf; split <;> omega
  have hg : ∀ k : Int, 1 ≤ k ∧ k ≤ 6 → ∀ u : Nat, u < 64 → (occB (getP B (k + 6 * (cOther t - 1))) u = true ↔ c u = k + 6 * (2 - t)) := fun k hk u hu => by
    have e : cOther t - 1 = 2 - t := by rcases ht with rfl | rfl <;> rfl
    rw [e, occ_get h (by omega) hu, decide_eq_true_eq]
  have h2t : 2 - t = 0 ∨ 2 - t = 1 := by omega
  have nzo : ∀ x y : BitVec 64, (!decide (x ||| y = 0#64)) = true ↔ ∃ u : Nat, u < 64 ∧ (occB x u = true ∨ occB y u = true) := fun x y => by
    have := nz_and (x := x ||| y) (y := BitVec.allOnes 64)
    rw [BitVec.and_allOnes] at this
    rw [this]
    have ha : ∀ u : Nat, u < 64 → occB (BitVec.allOnes 64) u = true := fun u hu => by rw [occ_nat _ hu, BitVec.getLsbD_allOnes]; simp; omega
    exact ⟨fun ⟨u, a, b, d⟩ => ⟨u, a, by rw [occ_or, Bool.or_eq_true] at b; exact b⟩, fun ⟨u, a, b⟩ => ⟨u, a, by rw [occ_or, Bool.or_eq_true]; exact b, ha u a⟩⟩
  rw [Bool.eq_iff_iff, attB_iff]
  simp only [attS, Bool.and_eq_true, Bool.or_eq_true, nz_and, nzo]
  constructor
  · rintro ⟨_, h1⟩
    have key : ∃ i : Nat, i < 64 ∧ attK c (2 - t) s i := by
      rcases h1 with ((((h1 | h1) | h1) | h1) | h1) | h1
      · obtain ⟨i, hi, a, b⟩ := h1
        rw [occ_or, Bool.or_eq_true, hv_iff' hs hi ho, dia_iff' hs hi ho] at a
        rw [hg 2 (by omega) i hi] at b
        refine ⟨i, hi, .inl ⟨b, ?_⟩⟩
        rcases a with ⟨a1, a2⟩ | ⟨a1, a2⟩
        · exact ⟨.inl a1, a2⟩
        · exact ⟨.inr a1, a2⟩
      · obtain ⟨i, hi, a, b⟩ := h1
        rw [hv_iff' hs hi ho] at a
        rw [hg 3 (by omega) i hi] at b
        exact ⟨i, hi, .inr (.inl ⟨b, a⟩)⟩
      · obtain ⟨i, hi, a, b⟩ := h1
        rw [dia_iff' hs hi ho] at a
        rw [hg 4 (by omega) i hi] at b
        exact ⟨i, hi, .inr (.inr (.inl ⟨b, a⟩))⟩
      · obtain ⟨i, hi, a, b⟩ := h1
        rw [kn_iff hs hi] at a
        rw [hg 5 (by omega) i hi] at b
        exact ⟨i, hi, .inr (.inr (.inr (.inl ⟨b, a⟩)))⟩
      · obtain ⟨i, hi, a, b⟩ := h1
        rw [occ_sq hs hi, decide_eq_true_eq] at b
        subst b
        rw [pawnA_iff h ht hs] at a
        obtain ⟨j, hj, a⟩ := a
        exact ⟨j, hj, .inr (.inr (.inr (.inr (.inl a))))⟩
      · obtain ⟨i, hi, a, b⟩ := h1
        rw [ki_iff hs hi] at a
        rw [hg 1 (by omega) i hi] at b
        exact ⟨i, hi, .inr (.inr (.inr (.inr (.inr ⟨b, a⟩))))⟩
    obtain ⟨i, hi, hk⟩ := key
    exact ⟨i, hi, (hits_attK hb h2t hi).2 hk⟩
  · rintro ⟨i, hi, hh⟩
    have hk := (hits_attK hb h2t hi).1 hh
    have hopi := (hop i hi).2 ⟨hh.1, hh.2.1⟩
    have far : ∀ {p : Prop}, ((fdif i s = rdif i s ∨ fdif i s = -rdif i s) ∨ (fdif i s = 0 ∨ rdif i s = 0)) → (i : Int) ≠ s → clearP c i s (distOf i s) → p → (∃ u : Nat, u < 64 ∧ (occB ((diaB (~~~B.e) s ||| hvB (~~~B.e) s) &&& if t = 2 then B.w else B.b) u = true ∨ occB (tabB bbKnightMoves (s : Int).toNat &&& if t = 2 then B.w else B.b) u = true)) ∧ p := fun h1 h2 h3 hp => by
      refine ⟨⟨i, hi, .inl ?_⟩, hp⟩
      rw [occ_and, Bool.and_eq_true, occ_or, Bool.or_eq_true, hv_iff' hs hi ho, dia_iff' hs hi ho]
      refine ⟨?_, hopi⟩
      rcases h1 with h1 | h1
      · exact .inl ⟨h1, h2, h3⟩
      · exact .inr ⟨h1, h2, h3⟩
    rcases hk with ⟨h1, h2, h3, h4⟩ | ⟨h1, h2, h3, h4⟩ | ⟨h1, h2, h3, h4⟩ | ⟨h1, h2⟩ | ⟨h1, h2, h3⟩ | ⟨h1, h2, h3, h4⟩
    · refine far h2 h3 h4 (.inl (.inl (.inl (.inl (.inl ⟨i, hi, ?_, (hg 2 (by omega) i hi).2 h1⟩)))))
      rw [occ_or, Bool.or_eq_true, hv_iff' hs hi ho, dia_iff' hs hi ho]
      rcases h2 with h2 | h2
      · exact .inl ⟨h2, h3, h4⟩
      · exact .inr ⟨h2, h3, h4⟩
    · exact far (.inr h2) h3 h4 (.inl (.inl (.inl (.inl (.inr ⟨i, hi, (hv_iff' hs hi ho).2 ⟨h2, h3, h4⟩, (hg 3 (by omega) i hi).2 h1⟩)))))
    · exact far (.inl h2) h3 h4 (.inl (.inl (.inl (.inr ⟨i, hi, (dia_iff' hs hi ho).2 ⟨h2, h3, h4⟩, (hg 4 (by omega) i hi).2 h1⟩))))
    · refine ⟨⟨i, hi, .inr ?_⟩, .inl (.inl (.inr ⟨i, hi, (kn_iff hs hi).2 h2, (hg 5 (by omega) i hi).2 h1⟩))⟩
      rw [occ_and, Bool.and_eq_true]
      exact ⟨(kn_iff hs hi).2 h2, hopi⟩
    · have h2' := h2
      rw [sq1] at h2'
      have hd : distOf i s ≤ 1 := by
        unfold upOf at h3; unfold distOf; omega
      refine far (.inl (by unfold upOf at h3; omega)) (fun e => by unfold fdif at h2'; omega) (clear_1 hd) (.inl (.inr ⟨s, hs, (pawnA_iff h ht hs).2 ⟨i, hi, h1, h2, h3⟩, by rw [occ_sq hs hs]; simp⟩))
    · have h3' := sqle1 h3
      have h4' := sqle1 h4
      have hd : distOf i s ≤ 1 := by unfold distOf; omega
      exact far (by omega) h2 (clear_1 hd) (.inr ⟨i, hi, (ki_iff hs hi).2 ⟨h2, h3, h4⟩, (hg 1 (by omega) i hi).2 h1⟩)
end
end Go.Tb
end
section
namespace Go.Tb
open Go
section
variable {X : Cx} {n0 : Nat}
def mvS (i p k : Nat) : Nat := if k = 100 + i then 100 + p else k
def mvF (i p n : Nat) (fr : Fr) : Fr → Prop
  | [] => True
  | (t, v) :: r => (fr.get t = some (rl (mvS i p) v) ∧ WF n v) ∧ mvF i p n fr r
theorem mvF_get {i p n : Nat} {fr : Fr} : ∀ {fr' : Fr}, mvF i p n fr fr' → ∀ t v, fr'.get t = some v → fr.get t = some (rl (mvS i p) v) ∧ WF n v
  | [], _, t, v, h => by cases h
  | (s, u) :: r, h, t, v, hv => by
    simp only [Fr.get] at hv
    split at hv
    · rename_i e; subst e; simp only [Option.some.injEq] at hv; subst hv; exact h.1
    · exact mvF_get h.2 t v hv
theorem VS.mv (i p : Nat) {fr fr' : Fr} {M L' : List AO} (hn : n0 ≤ i) (hi : i < L'.length) (hp : p < M.length) (hip : p = i ∨ L'.length ≤ p) (hl : L'.length ≤ M.length) (hM : M[p]? = L'[i]?)
    (hk : ∀ k, k < L'.length → k ≠ i → M[k]? = L'[k]?) (hc : ∀ o ∈ L', rnO (mvS i p) o = o ∧ o.wf (100 + L'.length)) (hf : mvF i p (100 + L'.length) fr fr') : VS X n0 (fr, M) (fr', L') := by
  have hg : ∀ k o, L'[k]? = some o → (X.pad ++ M)[mvS i p (100 + k)]? = some (rnO (mvS i p) o) := fun k o h => by
    have hkl := (List.getElem?_eq_some_iff.1 h).1
    rw [(hc o (List.mem_of_getElem? h)).1]
    unfold mvS
    split
    · have : k = i := by omega
      subst this; rw [get_own, hM, h]
    · rw [get_own, hk k hkl (by omega), h]
  refine VS.rename (mvS i p) (fun k hk' => ?_) (fun k o hk' h _ => ?_) (by omega) (fun k hk' => ?_) (fun a b o h _ hb e => ?_) (fun k c T h => ?_) (fun k b c h => ?_) (fun k o h => hg k _ h) (mvF_get hf)
  · unfold mvS; rw [if_neg (by omega)]
  · rw [← hk k (by omega) (by omega)]; exact h
  · unfold mvS; split <;> omega
  · have hal := (List.getElem?_eq_some_iff.1 h).1
    unfold mvS at e
    split at e <;> split at e <;> omega
  · exact ⟨hg k _ h, (hc _ (List.mem_of_getElem? h)).2⟩
  · exact ⟨hg k _ h, (hc _ (List.mem_of_getElem? h)).2⟩
theorem VS.hole {fr fr' : Fr} {L : List AO} (hn : n0 ≤ L.length) (hc : ∀ o ∈ L, o.wf (100 + L.length)) (hf : ∀ t v, fr'.get t = some v → fr.get t = some v ∧ WF (100 + L.length) v) : VS X n0 (fr, L) (fr', L ++ [.any]) := by
  let σ : Nat → Nat := fun k => if k = 100 + L.length then 0 else k
  have hv : ∀ v, WF (100 + L.length) v → rl σ v = v := fun v h => h.fix fun k hk => by simp only [σ]; rw [if_neg (by omega)]
  have hlk : ∀ k o, (L ++ [AO.any])[k]? = some o → o ≠ .any → k < L.length ∧ L[k]? = some o := fun k o h ho => by
    rcases Nat.lt_or_ge k L.length with h1 | h1
    · rw [List.getElem?_append_left h1] at h; exact ⟨h1, h⟩
    · rw [List.getElem?_append_right h1] at h
      rcases Nat.eq_zero_or_pos (k - L.length) with h2 | h2
      · rw [h2] at h; simp at h; exact absurd h.symm ho
      · rw [List.getElem?_eq_none (by simp; omega)] at h; cases h
  have hs : ∀ k, k < L.length → σ (100 + k) = 100 + k := fun k hk => by simp only [σ]; rw [if_neg (by omega)]
  refine VS.rename σ (fun k hk' => ?_) (fun k o hk' h _ => ?_) (by simp; omega) (fun k hk' => ?_) (fun a b o h ho hb e => ?_) (fun k c T h => ?_) (fun k b c h => ?_) (fun k o h => ?_) (fun t v h => ?_)
  · simp only [σ]; rw [if_neg (by omega)]
  · rw [List.getElem?_append_left (by omega)]; exact h
  · simp only [List.length_append, List.length_cons, List.length_nil] at hk'
    simp only [σ]; split <;> omega
  · have h1 := hlk a o h (by rintro rfl; cases ho)
    rw [hs a h1.1] at e
    simp only [σ] at e
    split at e <;> omega
  · obtain ⟨h1, h2⟩ := hlk k _ h (by simp)
    have hw := hc _ (List.mem_of_getElem? h2)
    refine ⟨?_, fun v hv' => (hw v hv').mono (by simp)⟩
    rw [hs k h1, get_own, h2]
    congr 2
    conv => lhs; rw [← List.map_id c]
    exact List.map_congr_left fun v hv' => (hv v (hw v hv')).symm
  · obtain ⟨h1, h2⟩ := hlk k _ h (by simp)
    have hw := hc _ (List.mem_of_getElem? h2)
    refine ⟨?_, fun v hv' => (hw v hv').mono (by simp)⟩
    rw [hs k h1, get_own, h2]
    congr 2
    conv => lhs; rw [← List.map_id c]
    exact List.map_congr_left fun v hv' => (hv v (hw v hv')).symm
  · obtain ⟨h1, h2⟩ := hlk k _ h (by simp)
    rw [hs k h1, get_own, h2]
  · obtain ⟨h1, h2⟩ := hf t v h
    exact ⟨by rw [hv v h2]; exact h1, h2.mono (by simp)⟩
theorem seq_y {Y : Type} (st : Y → Fr × List AO) (good : Y → Prop) {N n0 : Nat} {D : List Deferred} {V : List Nat} {a b : Code} {Q : Exit → Fr → List AO → Prop} {fr : Fr} {L : List AO}
    (hb : ∀ y, good y → wpC X N D n0 V b Q (st y).1 (st y).2)
    (h : ∀ K : Fr → List AO → Prop, (∀ fr L, (∃ y, good y ∧ VS X n0 (fr, L) (st y)) → K fr L) → wpC X N D n0 V a (thenQ K Q) fr L) : wpC X N D n0 V (.seq a b) Q fr L :=
  h _ fun _ _ ⟨y, hy, hv⟩ => ⟨st y, hv, hb y hy⟩
end
abbrev Hold := Option (List Value × Nat)
def slH (b n : Nat) : Hold → Value
  | none => .slice none 0 0
  | some (_, cap) => .slice (some ⟨b, 0, none⟩) n cap
def slB (T : TypeId) (con : List Value) : Hold → AO
  | none => .any
  | some (tl, _) => .cells (con ++ tl) T
def slOk (sz n : Nat) (con : List Value) : Hold → Prop
  | none => n = 0 ∧ con = []
  | some (tl, cap) => con.length = n * sz ∧ (con ++ tl).length = cap * sz ∧ n ≤ cap ∧ ∀ v ∈ tl, Pl v
theorem zrep_pl {zc : List Value} (h : ∀ v ∈ zc, Pl v) : ∀ k, ∀ v ∈ zrep k zc, Pl v := fun k v hv => by
  unfold zrep at hv
  simp only [List.mem_flatten, List.mem_replicate] at hv
  obtain ⟨l, ⟨_, rfl⟩, hv⟩ := hv
  exact h v hv
theorem app_hold {X : Cx} {t tx e sz b n m i : Nat} {x : Value} {zc con news : List Value} {h : Hold} {L : List AO} {K : Value → List AO → Prop} (hsl : tSl X.P t = some (e, sz, b)) (hz : tZero X.P e = some zc) (hzl : zc.length = sz) (hzp : ∀ v ∈ zc, Pl v)
    (hsrc : srcM X.P (X.pad ++ L) sz tx x = some (m, news)) (h1 : news.all one = true) (hn : news.length = m * sz) (hm : 0 < m) (hL : L[i]? = some (slB e con h)) (hok : slOk sz n con h) (hb1 : (n + m) * b ≤ 140737488355328) (hb2 : n + m ≤ 9223372036854775807)
    (hk : ∀ tl cap, slOk sz (n + m) (con ++ news) (some (tl, cap)) → K (.slice (some ⟨100 + i, 0, none⟩) (n + m) cap) (L.set i (.cells (con ++ news ++ tl) e)) ∧ K (.slice (some ⟨100 + L.length, 0, none⟩) (n + m) cap) (L ++ [.cells (con ++ news ++ tl) e])) :
    app2 X L [slH (100 + i) n h, x] [t, tx] K := by
  have hz2 : ∀ c', n + m ≤ c' → con.length = n * sz → slOk sz (n + m) (con ++ news) (some (zrep (c' - (n + m)) zc, c')) := fun c' hc' hcl => by
    have e1 : (con ++ news).length = (n + m) * sz := by rw [List.length_append, hcl, hn, Nat.add_mul]
    refine ⟨e1, ?_, hc', zrep_pl hzp _⟩
    rw [List.length_append, e1]
    have : (zrep (c' - (n + m)) zc).length = (c' - (n + m)) * sz := by simp [zrep, hzl]
    rw [this, ← Nat.add_mul]; congr 1; omega
  cases h with
  | none =>
    obtain ⟨rfl, rfl⟩ := hok
    refine app_gen (c := 0) (base := none) hsl hz hzl hsrc h1 (olds := []) (by simp [oldM]) (fun hr => absurd hr (by omega)) fun _ => ⟨hb1, hb2, fun c' hc' => ?_⟩
    exact (hk _ _ (hz2 c' hc' (by simp))).2
  | some p =>
    obtain ⟨tl, cap⟩ := p
    obtain ⟨o1, o2, o3, o4⟩ := hok
    refine app_own hsl hz hzl hsrc h1 hn hL o1 o2 o3 (fun hr => ?_) fun _ => ⟨hb1, hb2, fun c' hc' => (hk _ _ (hz2 c' hc' o1)).2⟩
    refine (hk (tl.drop news.length) cap ⟨by rw [List.length_append, o1, hn, Nat.add_mul], ?_, hr, fun v hv => o4 v (List.mem_of_mem_drop hv)⟩).1
    have h3 : (n + m) * sz ≤ cap * sz := Nat.mul_le_mul_right _ hr
    rw [Nat.add_mul] at h3
    rw [List.length_append] at o2
    simp only [List.length_append, List.length_drop]
    omega
end Go.Tb
end
