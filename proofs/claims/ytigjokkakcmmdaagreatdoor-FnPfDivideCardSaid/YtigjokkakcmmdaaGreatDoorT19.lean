/-
  A part of the proof (my own): of the texts that the claim's last text rests on: parts P8, K1, Up, K2, K0.
-/
import Derived.Lib.Strings
import Derived.Shelf.Strings.OnBuilder
import Derived.Test.YtigjokkakcmmdaaGreatDoorProg
import Derived.Test.YtigjokkakcmmdaaGreatDoorT18
import Derived.Test.YtigjokkakcmmdaaGreatDoorT16
import Derived.Test.YtigjokkakcmmdaaGreatDoorT09
import Derived.Test.YtigjokkakcmmdaaGreatDoorT15
set_option linter.unusedSimpArgs false
set_option linter.unusedVariables false
section
namespace Go.Tb
open Go Go.Proofs
set_option maxRecDepth 20000
theorem rayF_mem {c : Nat → Int} {f r dx dy : Int} {far : Bool} {t : Int} : ∀ (k n : Nat), t ∈ rayF c f r dx dy far n k ↔ ∃ m : Nat, n ≤ m ∧ m < n + k ∧ atSq (f + m * dx) (r + m * dy) = t ∧ 0 ≤ t ∧ ∀ j : Nat, n ≤ j → j < m → 0 ≤ atSq (f + j * dx) (r + j * dy) ∧ c (atSq (f + j * dx) (r + j * dy)).toNat = 0 ∧ far = true
  | 0, n => by
    simp only [rayF, List.not_mem_nil, false_iff]
    rintro ⟨m, h1, h2, _⟩; omega
  | k + 1, n => by
    unfold rayF
    by_cases h0 : atSq (f + n * dx) (r + n * dy) < 0
    · rw [if_pos h0]
      simp only [List.not_mem_nil, false_iff]
      rintro ⟨m, h1, h2, h3, h4, h5⟩
      rcases Nat.lt_or_ge n m with h | h
      · have := (h5 n (Nat.le_refl _) h).1; omega
      · have : m = n := by omega
        subst this; omega
    · rw [if_neg h0, List.mem_cons]
      by_cases h1 : far = false ∨ c (atSq (f + n * dx) (r + n * dy)).toNat ≠ 0
      · rw [if_pos h1]
        simp only [List.not_mem_nil, or_false]
        constructor
        · rintro rfl
          exact ⟨n, Nat.le_refl _, by omega, rfl, by omega, fun j a b => by omega⟩
        · rintro ⟨m, a1, a2, a3, a4, a5⟩
          rcases Nat.lt_or_ge n m with h | h
          · obtain ⟨_, b2, b3⟩ := a5 n (Nat.le_refl _) h
            rcases h1 with h1 | h1
            · rw [b3] at h1; cases h1
            · exact absurd b2 h1
          · have : m = n := by omega
            subst this; exact a3.symm
      · rw [if_neg h1, rayF_mem k (n + 1)]
        have hfar : far = true := by cases far; exact absurd (.inl rfl) h1; rfl
        have hz : c (atSq (f + n * dx) (r + n * dy)).toNat = 0 := Classical.byContradiction fun e => h1 (.inr e)
        constructor
        · rintro (rfl | ⟨m, a1, a2, a3, a4, a5⟩)
          · exact ⟨n, Nat.le_refl _, by omega, rfl, by omega, fun j a b => by omega⟩
          · refine ⟨m, by omega, by omega, a3, a4, fun j b1 b2 => ?_⟩
            rcases Nat.lt_or_ge n j with h | h
            · exact a5 j h b2
            · have : j = n := by omega
              subst this; exact ⟨by omega, hz, hfar⟩
        · rintro ⟨m, a1, a2, a3, a4, a5⟩
          rcases Nat.lt_or_ge n m with h | h
          · exact .inr ⟨m, h, by omega, a3, a4, fun j b1 b2 => a5 j (by omega) b2⟩
          · have : m = n := by omega
            subst this; exact .inl a3.symm
section
variable {c : Nat → Int} {f t : Nat}
theorem kn_ways : ∀ f t : Fin 64, (jmpL.any fun d => decide (atSq ((f.val : Int) % 8 + 1 * d.1) ((f.val : Int) / 8 + 1 * d.2) = t.val)) = decide (fdif f.val t.val * fdif f.val t.val + rdif f.val t.val * rdif f.val t.val = 5) := by decide +kernel
theorem ki_ways : ∀ f t : Fin 64, ((strL ++ slaL).any fun d => decide (atSq ((f.val : Int) % 8 + 1 * d.1) ((f.val : Int) / 8 + 1 * d.2) = t.val)) = (decide (f.val ≠ t.val) && decide (fdif f.val t.val * fdif f.val t.val ≤ 1) && decide (rdif f.val t.val * rdif f.val t.val ≤ 1)) := by decide +kernel
theorem near_mem {w : List (Int × Int)} {fm t : Int} (ht : 0 ≤ t) : t ∈ reachW c fm false w ↔ (w.any fun d => decide (atSq (fm % 8 + 1 * d.1) (fm / 8 + 1 * d.2) = t)) = true := by
  unfold reachW rayD
  simp only [List.mem_flatMap, List.any_eq_true, decide_eq_true_eq, rayF_mem]
  constructor
  · rintro ⟨d, hd, m, h1, h2, h3, h4, h5⟩
    refine ⟨d, hd, ?_⟩
    rcases Nat.lt_or_ge 1 m with h | h
    · have := (h5 1 (by omega) h).2.2; cases this
    · have : m = 1 := by omega
      subst this; exact h3
  · rintro ⟨d, hd, h⟩
    exact ⟨d, hd, 1, by omega, by omega, h, ht, fun j a b => by omega⟩
theorem ray_way {d : Int × Int} {m : Nat} (hf : f < 64) (hd : d ∈ strL ++ slaL) (h1 : 1 ≤ m) (h : atSq ((f : Int) % 8 + m * d.1) ((f : Int) / 8 + m * d.2) = t) :
    wayOf f t = d.1 + 8 * d.2 ∧ distOf f t = m ∧ f ≠ t ∧ (d ∈ strL → fdif f t = 0 ∨ rdif f t = 0) ∧ (d ∈ slaL → fdif f t = rdif f t ∨ fdif f t = -rdif f t) ∧ ∀ j : Nat, j ≤ m → atSq ((f : Int) % 8 + j * d.1) ((f : Int) / 8 + j * d.2) = f + j * (d.1 + 8 * d.2) ∧ 0 ≤ (f : Int) + j * (d.1 + 8 * d.2) := by
  have hat : ∀ a b : Int, 0 ≤ a → a ≤ 7 → 0 ≤ b → b ≤ 7 → atSq a b = 8 * b + a := fun a b h1 h2 h3 h4 => by unfold atSq; rw [if_neg (by omega)]
  have hin : ∀ a b : Int, atSq a b = t → (0 ≤ a ∧ a ≤ 7) ∧ (0 ≤ b ∧ b ≤ 7) ∧ (t : Int) = 8 * b + a := fun a b h => by
    unfold atSq at h; split at h <;> omega
  obtain ⟨g1, g2, g3⟩ := hin _ _ h
  simp only [strL, slaL, List.mem_append, List.mem_cons, List.not_mem_nil, or_false] at hd
  rcases hd with (rfl | rfl | rfl | rfl) | (rfl | rfl | rfl | rfl) <;> simp only [Int.mul_zero, Int.mul_one, Int.add_zero, Int.mul_neg, Int.zero_add] at g1 g2 g3 ⊢
  · refine ⟨?_, ?_, by omega, fun _ => .inl (by unfold fdif; omega), fun hx => by simp [slaL] at hx, fun j hj => ⟨by rw [hat _ _ (by omega) (by omega) (by omega) (by omega)]; omega, by omega⟩⟩
    · unfold wayOf; rw [show fdif f t = 0 by unfold fdif; omega, sgn_p (n := rdif f t) (by unfold rdif; omega)]; rfl
    · unfold distOf fdif rdif; omega
  · refine ⟨?_, ?_, by omega, fun _ => .inr (by unfold rdif; omega), fun hx => by simp [slaL] at hx, fun j hj => ⟨by rw [hat _ _ (by omega) (by omega) (by omega) (by omega)]; omega, by omega⟩⟩
    · unfold wayOf; rw [show rdif f t = 0 by unfold rdif; omega, sgn_p (n := fdif f t) (by unfold fdif; omega)]; rfl
    · unfold distOf fdif rdif; omega
  · refine ⟨?_, ?_, by omega, fun _ => .inl (by unfold fdif; omega), fun hx => by simp [slaL] at hx, fun j hj => ⟨by rw [hat _ _ (by omega) (by omega) (by omega) (by omega)]; omega, by omega⟩⟩
    · unfold wayOf; rw [show fdif f t = 0 by unfold fdif; omega, sgn_n (n := rdif f t) (by unfold rdif; omega)]; rfl
    · unfold distOf fdif rdif; omega
  · refine ⟨?_, ?_, by omega, fun _ => .inr (by unfold rdif; omega), fun hx => by simp [slaL] at hx, fun j hj => ⟨by rw [hat _ _ (by omega) (by omega) (by omega) (by omega)]; omega, by omega⟩⟩
    · unfold wayOf; rw [show rdif f t = 0 by unfold rdif; omega, sgn_n (n := fdif f t) (by unfold fdif; omega)]; rfl
    · unfold distOf fdif rdif; omega
  · refine ⟨?_, ?_, by omega, fun hx => by simp [strL] at hx, fun _ => .inl (by unfold fdif rdif; omega), fun j hj => ⟨by rw [hat _ _ (by omega) (by omega) (by omega) (by omega)]; omega, by omega⟩⟩
    · unfold wayOf; rw [sgn_p (n := fdif f t) (by unfold fdif; omega), sgn_p (n := rdif f t) (by unfold rdif; omega)]; rfl
    · unfold distOf fdif rdif; omega
  · refine ⟨?_, ?_, by omega, fun hx => by simp [strL] at hx, fun _ => .inr (by unfold fdif rdif; omega), fun j hj => ⟨by rw [hat _ _ (by omega) (by omega) (by omega) (by omega)]; omega, by omega⟩⟩
    · unfold wayOf; rw [sgn_p (n := fdif f t) (by unfold fdif; omega), sgn_n (n := rdif f t) (by unfold rdif; omega)]; rfl
    · unfold distOf fdif rdif; omega
  · refine ⟨?_, ?_, by omega, fun hx => by simp [strL] at hx, fun _ => .inl (by unfold fdif rdif; omega), fun j hj => ⟨by rw [hat _ _ (by omega) (by omega) (by omega) (by omega)]; omega, by omega⟩⟩
    · unfold wayOf; rw [sgn_n (n := fdif f t) (by unfold fdif; omega), sgn_n (n := rdif f t) (by unfold rdif; omega)]; rfl
    · unfold distOf fdif rdif; omega
  · refine ⟨?_, ?_, by omega, fun hx => by simp [strL] at hx, fun _ => .inr (by unfold fdif rdif; omega), fun j hj => ⟨by rw [hat _ _ (by omega) (by omega) (by omega) (by omega)]; omega, by omega⟩⟩
    · unfold wayOf; rw [sgn_n (n := fdif f t) (by unfold fdif; omega), sgn_p (n := rdif f t) (by unfold rdif; omega)]; rfl
    · unfold distOf fdif rdif; omega
theorem way_str (hf : f < 64) (ht : t < 64) (hn : f ≠ t) (h : fdif f t = 0 ∨ rdif f t = 0) : ∃ d, d ∈ strL ∧ ∃ m : Nat, 1 ≤ m ∧ m < 8 ∧ atSq ((f : Int) % 8 + m * d.1) ((f : Int) / 8 + m * d.2) = t := by
  have hat : ∀ a b : Int, 0 ≤ a → a ≤ 7 → 0 ≤ b → b ≤ 7 → atSq a b = 8 * b + a := fun a b h1 h2 h3 h4 => by unfold atSq; rw [if_neg (by omega)]
  unfold fdif rdif at h
  rcases h with h | h
  · rcases Nat.lt_or_ge f t with h2 | h2
    · refine ⟨(0, 1), by simp [strL], t / 8 - f / 8, by omega, by omega, ?_⟩
      simp only [Int.mul_zero, Int.mul_one, Int.add_zero]
      rw [hat _ _ (by omega) (by omega) (by omega) (by omega)]; omega
    · refine ⟨(0, -1), by simp [strL], f / 8 - t / 8, by omega, by omega, ?_⟩
      simp only [Int.mul_zero, Int.mul_one, Int.add_zero, Int.mul_neg]
      rw [hat _ _ (by omega) (by omega) (by omega) (by omega)]; omega
  · rcases Nat.lt_or_ge f t with h2 | h2
    · refine ⟨(1, 0), by simp [strL], t - f, by omega, by omega, ?_⟩
      simp only [Int.mul_zero, Int.mul_one, Int.add_zero]
      rw [hat _ _ (by omega) (by omega) (by omega) (by omega)]; omega
    · refine ⟨(-1, 0), by simp [strL], f - t, by omega, by omega, ?_⟩
      simp only [Int.mul_zero, Int.mul_one, Int.add_zero, Int.mul_neg]
      rw [hat _ _ (by omega) (by omega) (by omega) (by omega)]; omega
theorem way_sla (hf : f < 64) (ht : t < 64) (hn : f ≠ t) (h : fdif f t = rdif f t ∨ fdif f t = -rdif f t) : ∃ d, d ∈ slaL ∧ ∃ m : Nat, 1 ≤ m ∧ m < 8 ∧ atSq ((f : Int) % 8 + m * d.1) ((f : Int) / 8 + m * d.2) = t := by
  have hat : ∀ a b : Int, 0 ≤ a → a ≤ 7 → 0 ≤ b → b ≤ 7 → atSq a b = 8 * b + a := fun a b h1 h2 h3 h4 => by unfold atSq; rw [if_neg (by omega)]
  unfold fdif rdif at h
  rcases h with h | h
  · rcases Nat.lt_or_ge f t with h2 | h2
    · refine ⟨(1, 1), by simp [slaL], t / 8 - f / 8, by omega, by omega, ?_⟩
      simp only [Int.mul_one]
      rw [hat _ _ (by omega) (by omega) (by omega) (by omega)]; omega
    · refine ⟨(-1, -1), by simp [slaL], f / 8 - t / 8, by omega, by omega, ?_⟩
      simp only [Int.mul_one, Int.mul_neg]
      rw [hat _ _ (by omega) (by omega) (by omega) (by omega)]; omega
  · rcases Nat.lt_or_ge f t with h2 | h2
    · refine ⟨(-1, 1), by simp [slaL], t / 8 - f / 8, by omega, by omega, ?_⟩
      simp only [Int.mul_one, Int.mul_neg]
      rw [hat _ _ (by omega) (by omega) (by omega) (by omega)]; omega
    · refine ⟨(1, -1), by simp [slaL], f / 8 - t / 8, by omega, by omega, ?_⟩
      simp only [Int.mul_one, Int.mul_neg]
      rw [hat _ _ (by omega) (by omega) (by omega) (by omega)]; omega
theorem far_mem {w : List (Int × Int)} (hw : ∀ d ∈ w, d ∈ strL ++ slaL) (hf : f < 64) : (t : Int) ∈ reachW c f true w ↔ (∃ d ∈ w, ∃ m : Nat, 1 ≤ m ∧ m < 8 ∧ atSq ((f : Int) % 8 + m * d.1) ((f : Int) / 8 + m * d.2) = t) ∧ clearP c f t (distOf f t) := by
  unfold reachW rayD
  simp only [List.mem_flatMap, rayF_mem]
  constructor
  · rintro ⟨d, hd, m, h1, h2, h3, h4, h5⟩
    obtain ⟨g1, g2, _, _, _, g3⟩ := ray_way hf (hw d hd) h1 h3
    refine ⟨⟨d, hd, m, h1, by omega, h3⟩, fun k k1 k2 => ?_⟩
    rw [g2] at k2
    have := (h5 k k1 k2).2.1
    rw [(g3 k (by omega)).1] at this
    rw [g1]; exact this
  · rintro ⟨⟨d, hd, m, h1, h2, h3⟩, hc⟩
    obtain ⟨g1, g2, _, _, _, g3⟩ := ray_way hf (hw d hd) h1 h3
    refine ⟨d, hd, m, h1, by omega, h3, by omega, fun j j1 j2 => ?_⟩
    have := hc j j1 (by omega)
    rw [g1] at this
    rw [(g3 j (by omega)).1]
    exact ⟨(g3 j (by omega)).2, this, trivial⟩
def reachP (c : Nat → Int) (f t : Nat) : Prop := f ≠ t ∧
  (if kindOf (c f) = 1 then fdif f t * fdif f t ≤ 1 ∧ rdif f t * rdif f t ≤ 1
   else if kindOf (c f) = 5 then fdif f t * fdif f t + rdif f t * rdif f t = 5
   else if kindOf (c f) = 2 then ((fdif f t = 0 ∨ rdif f t = 0) ∨ (fdif f t = rdif f t ∨ fdif f t = -rdif f t)) ∧ clearP c f t (distOf f t)
   else if kindOf (c f) = 3 then (fdif f t = 0 ∨ rdif f t = 0) ∧ clearP c f t (distOf f t)
   else if kindOf (c f) = 4 then (fdif f t = rdif f t ∨ fdif f t = -rdif f t) ∧ clearP c f t (distOf f t)
   else False)
theorem reachL_iff (hf : f < 64) (ht : t < 64) (hk : 1 ≤ kindOf (c f) ∧ kindOf (c f) ≤ 5) : (t : Int) ∈ reachL c f ↔ reachP c f t := by
  unfold reachL reachP
  rw [Int.toNat_natCast]
  have hcs : kindOf (c f) = 1 ∨ kindOf (c f) = 2 ∨ kindOf (c f) = 3 ∨ kindOf (c f) = 4 ∨ kindOf (c f) = 5 := by omega
  rcases hcs with e | e | e | e | e
  · simp only [e, wayF, wayL, ↓reduceIte]
    rw [near_mem (by omega), ki_ways ⟨f, hf⟩ ⟨t, ht⟩]
    simp only [Bool.and_eq_true, decide_eq_true_eq, and_assoc]
  · simp only [e, wayF, wayL, ↓reduceIte, Int.reduceEq]
    rw [far_mem (fun d hd => hd) hf]
    constructor
    · rintro ⟨⟨d, hd, m, h1, h2, h3⟩, hc⟩
      obtain ⟨_, _, g1, g2, g3, _⟩ := ray_way hf hd h1 h3
      refine ⟨g1, ?_, hc⟩
      rcases List.mem_append.1 hd with h | h
      · exact .inl (g2 h)
      · exact .inr (g3 h)
    · rintro ⟨hn, hl, hc⟩
      refine ⟨?_, hc⟩
      rcases hl with hl | hl
      · obtain ⟨d, hd, r⟩ := way_str hf ht hn hl; exact ⟨d, List.mem_append_left _ hd, r⟩
      · obtain ⟨d, hd, r⟩ := way_sla hf ht hn hl; exact ⟨d, List.mem_append_right _ hd, r⟩
  · simp only [e, wayF, wayL, ↓reduceIte, Int.reduceEq]
    rw [far_mem (fun d hd => List.mem_append_left _ hd) hf]
    constructor
    · rintro ⟨⟨d, hd, m, h1, h2, h3⟩, hc⟩
      obtain ⟨_, _, g1, g2, g3, _⟩ := ray_way hf (List.mem_append_left _ hd) h1 h3
      exact ⟨g1, g2 hd, hc⟩
    · rintro ⟨hn, hl, hc⟩
      exact ⟨way_str hf ht hn hl, hc⟩
  · simp only [e, wayF, wayL, ↓reduceIte, Int.reduceEq]
    rw [far_mem (fun d hd => List.mem_append_right _ hd) hf]
    constructor
    · rintro ⟨⟨d, hd, m, h1, h2, h3⟩, hc⟩
      obtain ⟨_, _, g1, g2, g3, _⟩ := ray_way hf (List.mem_append_right _ hd) h1 h3
      exact ⟨g1, g3 hd, hc⟩
    · rintro ⟨hn, hl, hc⟩
      exact ⟨way_sla hf ht hn hl, hc⟩
  · simp only [e, wayF, wayL, ↓reduceIte, Int.reduceEq]
    rw [near_mem (by omega), kn_ways ⟨f, hf⟩ ⟨t, ht⟩, decide_eq_true_eq]
    refine ⟨fun h => ⟨?_, h⟩, fun h => h.2⟩
    rintro rfl
    rw [show fdif (f : Nat) (f : Nat) = 0 by unfold fdif; omega, show rdif (f : Nat) (f : Nat) = 0 by unfold rdif; omega] at h
    simp at h
theorem pmB_iff {D : Pd} {B : Brd} (hr : RepB c B) (hb : Bd c) (hf : f < 64) (ht : t < 64) (hk : 1 ≤ kindOf (c f) ∧ kindOf (c f) ≤ 5) : occB (pmB D B (kindOf (c f)) f) t = true ↔ reachP c f t := by
  have ho := fun u hu => occ_full hr hb (s := u) hu
  unfold pmB reachP
  have hcs : kindOf (c f) = 1 ∨ kindOf (c f) = 2 ∨ kindOf (c f) = 3 ∨ kindOf (c f) = 4 ∨ kindOf (c f) = 5 := by omega
  rcases hcs with e | e | e | e | e
  · simp only [e, ↓reduceIte, Int.toNat_natCast]
    rw [tab_king ⟨f, hf⟩ ⟨t, ht⟩]
    simp only [Bool.and_eq_true, decide_eq_true_eq, and_assoc]
  · simp only [e, ↓reduceIte, Int.reduceEq]
    rw [occ_or, Bool.or_eq_true, hv_iff hf ht ho, dia_iff hf ht ho]
    constructor
    · rintro (⟨a, b, d⟩ | ⟨a, b, d⟩)
      · exact ⟨b, .inr a, d⟩
      · exact ⟨b, .inl a, d⟩
    · rintro ⟨b, a | a, d⟩
      · exact .inr ⟨a, b, d⟩
      · exact .inl ⟨a, b, d⟩
  · simp only [e, ↓reduceIte, Int.reduceEq]
    rw [hv_iff hf ht ho]
    exact ⟨fun ⟨a, b, d⟩ => ⟨b, a, d⟩, fun ⟨b, a, d⟩ => ⟨a, b, d⟩⟩
  · simp only [e, ↓reduceIte, Int.reduceEq]
    rw [dia_iff hf ht ho]
    exact ⟨fun ⟨a, b, d⟩ => ⟨b, a, d⟩, fun ⟨b, a, d⟩ => ⟨a, b, d⟩⟩
  · simp only [e, ↓reduceIte, Int.reduceEq, Int.toNat_natCast]
    rw [tab_knight ⟨f, hf⟩ ⟨t, ht⟩, decide_eq_true_eq]
    refine ⟨fun h => ⟨?_, h⟩, fun h => h.2⟩
    rintro rfl
    rw [show fdif (f : Nat) (f : Nat) = 0 by unfold fdif; omega, show rdif (f : Nat) (f : Nat) = 0 by unfold rdif; omega] at h
    simp at h
theorem reach_hits (hc : c f ≠ 0) (hk : 1 ≤ kindOf (c f) ∧ kindOf (c f) ≤ 5) (h : reachP c f t) : hitsP c f t := by
  obtain ⟨h1, h2⟩ := h
  refine ⟨by omega, by rw [Int.toNat_natCast]; exact hc, ?_⟩
  rw [Int.toNat_natCast]
  have hcs : kindOf (c f) = 1 ∨ kindOf (c f) = 2 ∨ kindOf (c f) = 3 ∨ kindOf (c f) = 4 ∨ kindOf (c f) = 5 := by omega
  rcases hcs with e | e | e | e | e <;> simp [e, strP, slaP] at h2 ⊢
  · exact h2
  · exact h2
  · exact h2
  · exact h2
  · exact h2
end
end Go.Tb
end
section
namespace Go.Tb
open Go Go.Proofs
variable {z : Nat × Nat}
set_option maxRecDepth 20000
def byt (l : List UInt8) : ByteArray := ⟨l.toArray⟩
theorem bs_size (l : List UInt8) : (byt l).size = l.length := rfl
theorem bs_extract (l : List UInt8) (a b : Nat) : (byt l).extract a b = byt ((l.drop a).take (b - a)) := Go.Lib.extract_eq _ _ _
theorem bs_toList (l : List UInt8) : (byt l).toList = l := by
  have h := Go.Lib.extract_toList (byt l) 0 l.length
  rw [bs_extract] at h
  simp only [List.drop_zero, Nat.sub_zero, List.take_length] at h
  exact h.trans (by show l.take l.length = l; rw [List.take_length])
def bAt (l : List UInt8) (k : Nat) : UInt8 := l.getD k 0
theorem bAt_one {l : List UInt8} {k : Nat} (h : k < l.length) : (l.drop k).take 1 = [bAt l k] := by
  rw [List.drop_eq_getElem_cons h, List.take_succ_cons, List.take_zero]
  simp [bAt, List.getD_eq_getElem?_getD, h]
theorem t9 : tStr Tryz.prog 9 = true := by kernel_rfl
theorem sl9 {l : List UInt8} {i j : Int} (h : 0 ≤ i ∧ i ≤ j ∧ j ≤ l.length) : sliceV Tryz.prog 9 (.string (byt l)) (some (some (.int .i64 i))) (some (some (.int .i64 j))) = some (.string (byt ((l.drop i.toNat).take (j.toNat - i.toNat)))) := by
  have hs := bs_size l
  simp only [sliceV, t9, if_true, bdV]
  rw [if_pos (by omega), Option.bind_some, if_pos (by omega), Option.map_some, bs_extract]
theorem sl9k {l : List UInt8} {k : Nat} (h : k < l.length) : sliceV Tryz.prog 9 (.string (byt l)) (some (some (.int .i64 k))) (some (some (.int .i64 ((k : Int) + 1)))) = some (.string (byt [bAt l k])) := by
  rw [sl9 (by omega), Int.toNat_natCast, show ((k : Int) + 1).toNat - k = 1 by omega, bAt_one h]
theorem sl9lo {l : List UInt8} {i : Int} (h : 0 ≤ i ∧ i ≤ l.length) : sliceV Tryz.prog 9 (.string (byt l)) none (some (some (.int .i64 i))) = some (.string (byt (l.take i.toNat))) := by
  have hs := bs_size l
  simp only [sliceV, t9, if_true, bdV]
  rw [if_pos (by omega), Option.bind_some, Option.map_some, bs_extract, List.drop_zero, Nat.sub_zero]
theorem sl9hi {l : List UInt8} {i : Int} (h : 0 ≤ i ∧ i ≤ l.length) : sliceV Tryz.prog 9 (.string (byt l)) (some (some (.int .i64 i))) none = some (.string (byt (l.drop i.toNat))) := by
  have hs := bs_size l
  simp only [sliceV, t9, if_true, bdV]
  rw [Option.bind_some, if_pos (by omega), Option.map_some, bs_extract, hs, List.take_of_length_le (by simp)]
theorem beq1 (a b : UInt8) : (([a] : List UInt8) == [b]) = decide (a = b) := by
  by_cases h : a = b
  · subst h; simp
  · simp [h]
def idxL (l : List UInt8) (b : UInt8) : Int := findI (fun k => decide (bAt l k = b)) l.length
attribute [local irreducible] byt in
set_option maxHeartbeats 2000000 in
theorem index_ok (l : List UInt8) (b : UInt8) (hl : l.length ≤ 1000) : FnP (Tz z) 91 [.string (byt l), .string (byt [b])] (.int .i64 (idxL l b)) := by
  refine ⟨by simp [Pl.str], Pl.int, start [0, 1, 4, 5, 12, 23] Tryz.func91 rfl (by decide) rfl (by kernel_rfl) (by simp [Tryz.f91]) ?_⟩
  simp only [Tryz.f91]
  repeat' (first | with_reducible refine loop (c := Code.seq (Code.seq (Code.region 2 _ _) _) _) (V := [0, 1, 4, 5, 12, 23]) (fun k : Nat => ([(0, .string (byt l)), (1, .string (byt [b])), (5, .int .i64 k)], [])) (fun k => k ≤ l.length ∧ ∀ i, i < k → bAt l i ≠ b) (fun k => l.length - k) 0 (by kernel_rfl) ?_ ?_ (fun k hk => ?_) | with_reducible refine seq_k fun K hK => ?_ | (with_reducible refine hK _ _ ?_; clear hK) | ((with_reducible first | refine gd_dec ?_ ?_ | refine gd_ndec ?_ ?_ | refine qC_dec ?_ ?_ | refine qC_ndec ?_ ?_ | refine piC_dec ?_ ?_ | refine piC_ndec ?_ ?_ | refine zC_dec ?_ ?_ | refine zC_ndec ?_ ?_ | refine zD_dec ?_ ?_ | refine yC_dec ?_ ?_ | refine yC_ndec ?_ ?_ | refine if_dec ?_ ?_ | refine if_ndec ?_ ?_) <;> intro hh) | simp -implicitDefEqProofs (disch := first | omega | assumption) only [go_sem, ↓reduceIte, Nat.reduceEqDiff, Int.reduceEq, Nat.reduceAdd, Nat.reduceSub, Nat.reduceMul, Nat.mul_one, Nat.one_mul, List.length_nil, List.length_cons, List.nil_append, List.cons_append, List.length_append, List.set_cons_zero, List.set_cons_succ, Nat.zero_add, Nat.sub_zero, Option.isNone_none, Option.isNone_some, Int.toNat_natCast, Nat.add_sub_cancel_left, Bool.not_true, Bool.not_false, BitVec.reduceOfInt, Int.reduceToNat, bs_size, bs_toList, sl9k, beq1, Int.natCast_one] | ((with_reducible first | refine gd_bool ?_ ?_ | refine if_bool ?_ ?_ | refine qC_bool ?_ ?_ | refine piC_bool ?_ ?_ | refine zC_bool ?_ ?_ | refine zD_bool ?_ ?_ | refine yC_bool ?_ ?_) <;> intro hh) | clear hK)
  all_goals first
    | exact ⟨Nat.zero_le _, fun i hi => by omega⟩
    | (refine VS.sub2 ?_ rfl
       simp [Fr.sub, Fr.get]; done)
    | (refine congrArg (Value.int .i64) ?_
       exact (findI_at (k := k) (by omega) (by simpa using hh) (fun i hi => by simpa using hk.2 i hi)).symm)
    | (refine ⟨k + 1, ⟨by omega, all_succ hk.2 hh⟩, by omega, VS.sub2 ?_ rfl⟩
       simp [Fr.sub, Fr.get]; done)
    | (refine congrArg (Value.int .i64) ?_
       exact (findI_no (fun i hi => by simpa using hk.2 i (by omega))).symm)
end Go.Tb
end
section
namespace Go.Proofs
open Go.Shelf
def Tryz.lays158_ren : Go.Shelf.Ren := ⟨fun | 158 => 101 | 165 => 105 | 166 => 106 | 167 => 107 | 169 => 108 | 230 => 109 | 203 => 110 | 240 => 112 | 241 => 113 | 197 => 114 | 118 => 115 | 168 => 116 | 270 => 117 | 262 => 118 | 276 => 120 | 277 => 121 | 260 => 122 | 242 => 123 | 313 => 124 | 278 => 126 | 274 => 127 | 275 => 128 | n => n, fun | 9 => 9 | 4 => 4 | 3 => 3 | 5 => 5 | 72 => 154 | 0 => 0 | 76 => 158 | 75 => 157 | 107 => 163 | 70 => 152 | 20 => 20 | 37 => 137 | 127 => 165 | 21 => 21 | 105 => 166 | 164 => 173 | 162 => 179 | 203 => 177 | 119 => 180 | 46 => 53 | 139 => 183 | 138 => 182 | 51 => 184 | 160 => 185 | 208 => 191 | 206 => 189 | 80 => 161 | n => n, fun | 13 => 8 | 3 => 10 | 4 => 11 | n => n⟩
theorem Tryz.lays158 : Go.Proofs.Lays.n158 Tryz.prog Tryz.lays158_ren := {
  mixed := by kernel_rfl
  f118 := Tryz.func115.trans (congrArg some (by kernel_rfl))
  f158 := Tryz.func101.trans (congrArg some (by kernel_rfl))
  f165 := Tryz.func105.trans (congrArg some (by kernel_rfl))
  f166 := Tryz.func106.trans (congrArg some (by kernel_rfl))
  f167 := Tryz.func107.trans (congrArg some (by kernel_rfl))
  f168 := Tryz.func116.trans (congrArg some (by kernel_rfl))
  f169 := Tryz.func108.trans (congrArg some (by kernel_rfl))
  f197 := Tryz.func114.trans (congrArg some (by kernel_rfl))
  f203 := Tryz.func110.trans (congrArg some (by kernel_rfl))
  f230 := Tryz.func109.trans (congrArg some (by kernel_rfl))
  f240 := Tryz.func112.trans (congrArg some (by kernel_rfl))
  f241 := Tryz.func113.trans (congrArg some (by kernel_rfl))
  f242 := Tryz.func123.trans (congrArg some (by kernel_rfl))
  f260 := Tryz.func122.trans (congrArg some (by kernel_rfl))
  f262 := Tryz.func118.trans (congrArg some (by kernel_rfl))
  f270 := Tryz.func117.trans (congrArg some (by kernel_rfl))
  f274 := Tryz.func127.trans (congrArg some (by kernel_rfl))
  f275 := Tryz.func128.trans (congrArg some (by kernel_rfl))
  f276 := Tryz.func120.trans (congrArg some (by kernel_rfl))
  f277 := Tryz.func121.trans (congrArg some (by kernel_rfl))
  f278 := Tryz.func126.trans (congrArg some (by kernel_rfl))
  f313 := Tryz.func124.trans (congrArg some (by kernel_rfl))
  t0 := Tryz.underlying0
  a0 := Tryz.isAgg0
  z0 := Tryz.sizeOf0
  v0 := Tryz.zeroValue0
  t3 := Tryz.underlying3
  a3 := Tryz.isAgg3
  z3 := Tryz.sizeOf3
  v3 := Tryz.zeroValue3
  t4 := Tryz.underlying4
  a4 := Tryz.isAgg4
  z4 := Tryz.sizeOf4
  v4 := Tryz.zeroValue4
  t5 := Tryz.underlying5
  a5 := Tryz.isAgg5
  z5 := Tryz.sizeOf5
  v5 := Tryz.zeroValue5
  t9 := Tryz.underlying9
  a9 := Tryz.isAgg9
  z9 := Tryz.sizeOf9
  v9 := Tryz.zeroValue9
  t20 := Tryz.underlying20
  a20 := Tryz.isAgg20
  z20 := Tryz.sizeOf20
  v20 := Tryz.zeroValue20
  t21 := Tryz.underlying21
  a21 := Tryz.isAgg21
  z21 := Tryz.sizeOf21
  v21 := Tryz.zeroValue21
  t37 := Tryz.underlying137
  a37 := Tryz.isAgg137
  z37 := Tryz.sizeOf137
  v37 := Tryz.zeroValue137
  t46 := Tryz.underlying53
  a46 := Tryz.isAgg53
  z46 := Tryz.sizeOf53
  v46 := Tryz.zeroValue53
  t51 := Tryz.underlying184
  a51 := Tryz.isAgg184
  z51 := Tryz.sizeOf184
  v51 := Tryz.zeroValue184
  t70 := Tryz.underlying152
  a70 := Tryz.isAgg152
  z70 := Tryz.sizeOf152
  v70 := Tryz.zeroValue152
  t72 := Tryz.underlying154
  a72 := Tryz.isAgg154
  z72 := Tryz.sizeOf154
  v72 := Tryz.zeroValue154
  t75 := Tryz.underlying157
  a75 := Tryz.isAgg157
  z75 := Tryz.sizeOf157
  v75 := Tryz.zeroValue157
  t76 := Tryz.underlying158
  a76 := Tryz.isAgg158
  z76 := Tryz.sizeOf158
  v76 := Tryz.zeroValue158
  t105 := Tryz.underlying166
  a105 := Tryz.isAgg166
  z105 := Tryz.sizeOf166
  v105 := Tryz.zeroValue166
  t107 := Tryz.underlying163
  a107 := Tryz.isAgg163
  z107 := Tryz.sizeOf163
  v107 := Tryz.zeroValue163
  t119 := Tryz.underlying180
  a119 := Tryz.isAgg180
  z119 := Tryz.sizeOf180
  t127 := Tryz.underlying165
  a127 := Tryz.isAgg165
  z127 := Tryz.sizeOf165
  v127 := Tryz.zeroValue165
  t138 := Tryz.underlying182
  a138 := Tryz.isAgg182
  z138 := Tryz.sizeOf182
  v138 := Tryz.zeroValue182
  t139 := Tryz.underlying183
  a139 := Tryz.isAgg183
  z139 := Tryz.sizeOf183
  v139 := Tryz.zeroValue183
  t160 := Tryz.underlying185
  a160 := Tryz.isAgg185
  z160 := Tryz.sizeOf185
  v160 := Tryz.zeroValue185
  t162 := Tryz.underlying179
  a162 := Tryz.isAgg179
  z162 := Tryz.sizeOf179
  v162 := Tryz.zeroValue179
  t164 := Tryz.underlying173
  a164 := Tryz.isAgg173
  z164 := Tryz.sizeOf173
  v164 := Tryz.zeroValue173
  t203 := Tryz.underlying177
  a203 := Tryz.isAgg177
  z203 := Tryz.sizeOf177
  v203 := Tryz.zeroValue177
  t206 := Tryz.underlying189
  a206 := Tryz.isAgg189
  z206 := Tryz.sizeOf189
  v206 := Tryz.zeroValue189
  t208 := Tryz.underlying191
  a208 := Tryz.isAgg191
  z208 := Tryz.sizeOf191
  v208 := Tryz.zeroValue191
  g3 := by kernel_rfl
  g4 := by kernel_rfl
  g13 := by kernel_rfl }
theorem Tryz.Builder_Extra_158 : Builder.Extra Tryz.prog Tryz.lays158_ren := {
  sizeBuilder := by kernel_rfl
  liesBuilder := by kernel_rfl
  t5 := Tryz.underlying5
  a5 := Tryz.isAgg5
  z5 := Tryz.sizeOf5
  v5 := Tryz.zeroValue5
  infoByte := by kernel_rfl
  cellsByte := by kernel_rfl
  sizeByte := by kernel_rfl
  neB5 := by decide }
open Go.RowKit in
theorem Tryz.strings_ToUpper_ascii (s : ByteArray) (w : World) (hs : s.size ≤ 140737488355328) (hascii : ∀ (j : Nat) (b : UInt8), s.data.toList[j]? = some b → b.toNat < 128) :
    Calls Tryz.prog 101 #[.string s] w fun e w' => e = .returned (.string ⟨(Lib.toUpperA s.data.toList).toArray⟩) ∧ Below w.heap.size w w' := Any.strings_ToUpper_ascii Tryz.lays158 Tryz.Builder_Extra_158 s w hs hascii
end Go.Proofs
end
section
namespace Go.Tb
open Go Go.Proofs
variable {z : Nat × Nat}
set_option maxRecDepth 20000
theorem contains_ok (l : List UInt8) (b : UInt8) (hl : l.length ≤ 1000) : FnP (Tz z) 102 [.string (byt l), .string (byt [b])] (.bool (decide (0 ≤ idxL l b))) := by
  refine ⟨by simp [Pl.str], Pl.bool, start [0, 1, 4] Tryz.func102 rfl (by decide) rfl (by kernel_rfl) (by simp [Tryz.f102]) ?_⟩
  simp only [Tryz.f102]
  repeat' (first | (with_reducible first | refine call_p (index_ok l b hl) ?_ | refine qG_call (index_ok l b hl) ?_ | refine zG_call (index_ok l b hl) ?_ | refine yG_call (index_ok l b hl) ?_ | refine piG_call (index_ok l b hl) ?_ | refine seq_k fun K hK => ?_) | (with_reducible refine hK _ _ ?_; clear hK) | ((with_reducible first | refine gd_dec ?_ ?_ | refine gd_ndec ?_ ?_ | refine qC_dec ?_ ?_ | refine qC_ndec ?_ ?_ | refine piC_dec ?_ ?_ | refine piC_ndec ?_ ?_ | refine zC_dec ?_ ?_ | refine zC_ndec ?_ ?_ | refine zD_dec ?_ ?_ | refine yC_dec ?_ ?_ | refine yC_ndec ?_ ?_ | refine if_dec ?_ ?_ | refine if_ndec ?_ ?_) <;> intro hh) | simp -implicitDefEqProofs (disch := first | omega | assumption) only [go_sem, ↓reduceIte, Nat.reduceEqDiff, Int.reduceEq, Nat.reduceAdd, Nat.reduceSub, Nat.reduceMul, Nat.mul_one, Nat.one_mul, List.length_nil, List.length_cons, List.nil_append, List.cons_append, List.length_append, List.set_cons_zero, List.set_cons_succ, Nat.zero_add, Nat.sub_zero, Option.isNone_none, Option.isNone_some, Int.toNat_natCast, Nat.add_sub_cancel_left, Bool.not_true, Bool.not_false, BitVec.reduceOfInt, Int.reduceToNat] | ((with_reducible first | refine gd_bool ?_ ?_ | refine if_bool ?_ ?_ | refine qC_bool ?_ ?_ | refine piC_bool ?_ ?_ | refine zC_bool ?_ ?_ | refine zD_bool ?_ ?_ | refine yC_bool ?_ ?_) <;> intro hh) | clear hK)
theorem idxL_bd (l : List UInt8) (b : UInt8) : idxL l b < l.length ∨ idxL l b = -1 := by
  rcases findI_bd (fun k => decide (bAt l k = b)) l.length with h | h
  · exact .inl h.2
  · right; unfold idxL findI; rw [h]; rfl
theorem idxL_ge (l : List UInt8) (b : UInt8) : -1 ≤ idxL l b := by
  unfold idxL findI; split <;> omega
def delL (l : List UInt8) (b : UInt8) : List UInt8 := l.filter fun x => !decide (x = b)
theorem bAt_get {l : List UInt8} {k : Nat} (h : k < l.length) : l[k]? = some (bAt l k) := by simp [bAt, List.getD_eq_getElem?_getD, h]
theorem idxL_at {l : List UInt8} {b : UInt8} (h : 0 ≤ idxL l b) : (idxL l b).toNat < l.length ∧ bAt l (idxL l b).toNat = b ∧ ∀ j, j < (idxL l b).toNat → bAt l j ≠ b := by
  unfold idxL findI at *
  split at h
  · rename_i i hi
    rw [Int.toNat_natCast]
    rw [List.find?_range_eq_some] at hi
    obtain ⟨h1, h2, h3⟩ := hi
    refine ⟨by simpa using h2, by simpa using h1, fun j hj => ?_⟩
    have := h3 j (by simpa using hj)
    simpa using this
  · omega
theorem idxL_no {l : List UInt8} {b : UInt8} (h : idxL l b < 0) : ∀ x ∈ l, x ≠ b := by
  intro x hx e
  obtain ⟨k, hk, he⟩ := List.getElem_of_mem hx
  unfold idxL findI at h
  split at h
  · omega
  · rename_i h0
    rw [List.find?_eq_none] at h0
    have := h0 k (List.mem_range.2 hk)
    simp [bAt, List.getD_eq_getElem?_getD, hk, he, e] at this
theorem del_none {l : List UInt8} {b : UInt8} (h : idxL l b < 0) : delL l b = l := by
  unfold delL
  rw [List.filter_eq_self]
  intro x hx
  simpa using idxL_no h x hx
theorem del_step {l : List UInt8} {b : UInt8} (h : 0 ≤ idxL l b) : delL l b = l.take (idxL l b).toNat ++ delL (l.drop ((idxL l b).toNat + 1)) b := by
  obtain ⟨h1, h2, h3⟩ := idxL_at h
  generalize (idxL l b).toNat = k at *
  unfold delL
  conv => lhs; rw [← List.take_append_drop k l]
  rw [List.filter_append]
  congr 1
  · rw [List.filter_eq_self]
    intro x hx
    obtain ⟨j, hj, he⟩ := List.getElem_of_mem hx
    have hj' : j < k := by rw [List.length_take] at hj; omega
    have := h3 j hj'
    rw [List.getElem_take] at he
    simp only [bAt, List.getD_eq_getElem?_getD, List.getElem?_eq_getElem (show j < l.length by omega), Option.getD_some, he] at this
    simpa using this
  · rw [List.drop_eq_getElem_cons h1, List.filter_cons_of_neg]
    have := bAt_get h1
    rw [List.getElem?_eq_getElem h1, Option.some.injEq] at this
    simp [this, h2]
theorem delL_len (l : List UInt8) (b : UInt8) : (delL l b).length ≤ l.length := List.length_filter_le _ _
def bCells (l : List UInt8) : List Value := l.map fun b => .int .u8 b.toNat
theorem bCells_pl (l : List UInt8) : ∀ v ∈ bCells l, Pl v := by
  intro v hv; obtain ⟨b, _, rfl⟩ := List.mem_map.1 hv; exact Pl.int
theorem bCells_len (l : List UInt8) : (bCells l).length = l.length := by simp [bCells]
theorem bCells_app (a b : List UInt8) : bCells (a ++ b) = bCells a ++ bCells b := by simp [bCells]
theorem bCells_one (l : List UInt8) : (bCells l).all one = true := by
  rw [List.all_eq_true]; intro v hv; obtain ⟨b, _, rfl⟩ := List.mem_map.1 hv; rfl
theorem byteCells_eq (l : List UInt8) : byteCells (byt l) = bCells l := rfl
theorem src_str {X : Cx} {L : List AO} {tx : Nat} {l : List UInt8} (ht : tStr X.P tx = true) : srcM X.P (X.pad ++ L) 1 tx (.string (byt l)) = some (l.length, bCells l) := by
  simp [srcM, ht, byteCells_eq, bs_size]
theorem numsOf_b (l : List UInt8) : numsOf (bCells l) = some (l.map fun b => (b.toNat : Int)) := by
  induction l with
  | nil => rfl
  | cons b l ih => show numsOf (.int .u8 b.toNat :: bCells l) = _; rw [numsOf, ih]; rfl
theorem strOf_b (l : List UInt8) : strOfNums (l.map fun b => (b.toNat : Int)) = byt l := by
  unfold strOfNums byt
  congr 2
  rw [List.map_map]
  conv => rhs; rw [← List.map_id l]
  refine List.map_congr_left fun b _ => ?_
  simp
theorem app_zero {X : Cx} {t tx e sz b n i : Nat} {x : Value} {zc con : List Value} {h : Hold} {L : List AO} {K : Value → List AO → Prop} (hsl : tSl X.P t = some (e, sz, b)) (hz : tZero X.P e = some zc) (hzl : zc.length = sz)
    (hsrc : srcM X.P (X.pad ++ L) sz tx x = some (0, [])) (hL : L[i]? = some (slB e con h)) (hok : slOk sz n con h) (hk : K (slH (100 + i) n h) L) : app2 X L [slH (100 + i) n h, x] [t, tx] K := by
  cases h with
  | none =>
    obtain ⟨rfl, rfl⟩ := hok
    exact app_nil hsl hz hzl hsrc rfl (by simp) (fun _ => hk) fun hp => absurd hp (by omega)
  | some p =>
    obtain ⟨tl, cap⟩ := p
    obtain ⟨o1, o2, o3, o4⟩ := hok
    refine app_own hsl hz hzl hsrc rfl (by simp) hL o1 o2 o3 (fun hr => ?_) fun hc => absurd o3 (by omega)
    have e1 : L.set i (.cells (con ++ [] ++ tl.drop ([] : List Value).length) e) = L := by
      apply List.ext_getElem?
      intro k
      rw [List.getElem?_set]
      split
      · rename_i e; subst e
        rw [if_pos (List.getElem?_eq_some_iff.1 hL).1, hL]
        simp [slB]
      · rfl
    rw [e1]; exact hk
theorem conv_hold {X : Cx} {L : List AO} {s t e i n : Nat} {l : List UInt8} {h : Hold} {T : TypeId} (hs : X.P.underlying s = some (.slice e)) (he : X.P.underlying e = some (.int .u8)) (ht : X.P.underlying t = some .string) (hL : L[i]? = some (slB T (bCells l) h)) (hok : slOk 1 n (bCells l) h) : convM X.P (X.pad ++ L) s t (slH (100 + i) n h) = some (.string (byt l)) := by
  cases h with
  | none =>
    have hl : l = [] := by
      cases l with
      | nil => rfl
      | cons a l => have := hok.2; cases this
    subst hl
    simp only [slH, convM, hs, he, ht]; rfl
  | some p =>
    obtain ⟨tl, cap⟩ := p
    have hn : (bCells l).length = n := by have := hok.1; omega
    simp only [slH, convM, hs, he, ht]
    rw [rdS_own (tl := tl) hL hn, Option.bind_some, numsOf_b, Option.map_some, strOf_b]
theorem conv_k0 {X : Cx} {all rest : List Oper} {fr : Fr} {d : Option Tmp} {L : List AO} {K : Fr → List AO → Prop} {P : Program} {M : List AO} {s t : TypeId} {v r : Value} (h : convM P M s t v = some r) (hk : wpOps X all rest (fr.put d r) L K) : onP X (keepL L (convM P M s t v)) all rest fr d K := by
  rw [h]; exact hk
theorem take_len {l : List UInt8} {i : Nat} : (l.take i).length ≤ l.length := by rw [List.length_take]; omega
set_option maxHeartbeats 4000000 in
theorem replace_ok (l : List UInt8) (b : UInt8) (hl : l.length ≤ 1000) : FnP (Tz z) 70 [.string (byt l), .string (byt [b]), .string (byt [])] (.string (byt (delL l b))) := by
  refine ⟨by simp [Pl.str], Pl.str, start [0, 1, 2, 6, 7, 8, 9, 10, 13, 18, 19, 20, 23, 35, 49] Tryz.func70 rfl (by decide) rfl (by kernel_rfl) (by simp [Tryz.f70]) ?_⟩
  simp only [Tryz.f70]
  repeat' (first | ((with_reducible refine loop (c := Code.block 3 _) (V := [0, 1, 2, 6, 7, 8, 9, 10, 13, 18, 19, 20, 23, 35, 49]) (fun v : List UInt8 × List UInt8 × Hold => ([(0, .string (byt v.1)), (1, .string (byt [b])), (2, .string (byt [])), (7, slH 100 v.2.1.length v.2.2)], [slB 5 (bCells v.2.1) v.2.2])) (fun v => v.2.1 ++ delL v.1 b = delL l b ∧ v.2.1.length + v.1.length ≤ 1000 ∧ slOk 1 v.2.1.length (bCells v.2.1) v.2.2) (fun v => v.1.length) (l, [], none) (by kernel_rfl) ?_ ?_ (fun v hv => ?_)); (· exact ⟨rfl, by simpa using hl, ⟨rfl, rfl⟩⟩); (· exact VS.holex (L := []) (by simp) trivial (by simp [subW, Fr.get, slH, wf_nils, wf_str])); obtain ⟨r, o, h⟩ := v; obtain ⟨hv1, hv2, hv3⟩ := hv; simp only at hv1 hv2 hv3; have hi1 := idxL_bd r b; have hi2 := idxL_ge r b; have hi3 := take_len (l := r) (i := (idxL r b).toNat)) | ((with_reducible refine app_k ?_); refine app_zero (X := Tz z) (i := 0) (e := 5) (sz := 1) (b := 1) (h := some (tl, cap)) (con := bCells o ++ bCells (r.take (idxL r b).toNat)) (n := o.length + (r.take (idxL r b).toNat).length) (zc := [.int .u8 0]) (by kernel_rfl) (by kernel_rfl) rfl (src_str (l := []) (by kernel_rfl)) rfl hcap ?_) | ((with_reducible refine app_k ?_); refine app_zero (X := Tz z) (i := 1) (e := 5) (sz := 1) (b := 1) (h := some (tl, cap)) (con := bCells o ++ bCells (r.take (idxL r b).toNat)) (n := o.length + (r.take (idxL r b).toNat).length) (zc := [.int .u8 0]) (by kernel_rfl) (by kernel_rfl) rfl (src_str (l := []) (by kernel_rfl)) rfl hcap ?_) | (subst e0; (with_reducible refine app_k ?_); refine app_zero (X := Tz z) (i := 0) (e := 5) (sz := 1) (b := 1) (h := none) (con := bCells o) (n := o.length) (zc := [.int .u8 0]) (by kernel_rfl) (by kernel_rfl) rfl (src_str (l := []) (by kernel_rfl)) rfl hv3 ?_) | ((with_reducible refine app_k ?_); refine app_holdG (X := Tz z) (i := 0) (e := 5) (sz := 1) (b := 1) (h := h) (con := bCells o) (n := o.length) (zc := [.int .u8 0]) (m := (r.take (idxL r b).toNat).length) (news := bCells (r.take (idxL r b).toNat)) (by kernel_rfl) (by kernel_rfl) rfl (by simp [Pl.int]) (src_str (by kernel_rfl)) (bCells_one _) (by rw [bCells_len, Nat.mul_one]) rfl hv3 (by omega) (by omega) (fun e0 e1 => ?_) (fun tl cap hcap => ⟨?_, ?_⟩)) | ((with_reducible refine app_k ?_); refine app_holdG (X := Tz z) (i := 0) (e := 5) (sz := 1) (b := 1) (h := h) (con := bCells o) (n := o.length) (zc := [.int .u8 0]) (m := (r).length) (news := bCells (r)) (by kernel_rfl) (by kernel_rfl) rfl (by simp [Pl.int]) (src_str (by kernel_rfl)) (bCells_one _) (by rw [bCells_len, Nat.mul_one]) rfl hv3 (by omega) (by omega) (fun e0 e1 => ?_) (fun tl cap hcap => ⟨?_, ?_⟩)) | ((with_reducible refine conv_k0 (r := .string (byt (o ++ r))) ?_ ?_); (· first | exact conv_hold (X := Tz z) (i := 0) (h := some (tl, cap)) (e := 5) (l := o ++ r) (T := 5) (n := o.length + r.length) (by kernel_rfl) (by kernel_rfl) (by kernel_rfl) (by rw [bCells_app]; rfl) (by rw [bCells_app]; exact hcap) | exact conv_hold (X := Tz z) (i := 1) (h := some (tl, cap)) (e := 5) (l := o ++ r) (T := 5) (n := o.length + r.length) (by kernel_rfl) (by kernel_rfl) (by kernel_rfl) (by rw [bCells_app]; rfl) (by rw [bCells_app]; exact hcap) | (subst e0; exact conv_hold (X := Tz z) (i := 0) (h := none) (e := 5) (l := o ++ r) (T := 5) (n := 0) (by kernel_rfl) (by kernel_rfl) (by kernel_rfl) rfl ⟨rfl, by rw [bCells_app, hv3.2, List.eq_nil_of_length_eq_zero e1]; rfl⟩))) | (with_reducible first | refine call_p (index_ok _ b (by omega)) ?_ | refine qG_call (index_ok _ b (by omega)) ?_ | refine zG_call (index_ok _ b (by omega)) ?_ | refine yG_call (index_ok _ b (by omega)) ?_ | refine piG_call (index_ok _ b (by omega)) ?_ | refine seq_k fun K hK => ?_) | (with_reducible refine hK _ _ ?_; clear hK) | ((with_reducible first | refine gd_dec ?_ ?_ | refine gd_ndec ?_ ?_ | refine qC_dec ?_ ?_ | refine qC_ndec ?_ ?_ | refine piC_dec ?_ ?_ | refine piC_ndec ?_ ?_ | refine zC_dec ?_ ?_ | refine zC_ndec ?_ ?_ | refine zD_dec ?_ ?_ | refine yC_dec ?_ ?_ | refine yC_ndec ?_ ?_ | refine if_dec ?_ ?_ | refine if_ndec ?_ ?_) <;> intro hh) | simp -implicitDefEqProofs (disch := first | omega | assumption) only [go_sem, ↓reduceIte, Nat.reduceEqDiff, Int.reduceEq, Nat.reduceAdd, Nat.reduceSub, Nat.reduceMul, Nat.mul_one, Nat.one_mul, List.length_nil, List.length_cons, List.nil_append, List.cons_append, List.length_append, List.set_cons_zero, List.set_cons_succ, Nat.zero_add, Nat.sub_zero, Option.isNone_none, Option.isNone_some, Int.toNat_natCast, Nat.add_sub_cancel_left, Bool.not_true, Bool.not_false, BitVec.reduceOfInt, Int.reduceToNat, bs_size, bs_toList, Int.natCast_one, decide_false, decide_true, sl9lo, sl9hi, Option.map_none] | ((with_reducible first | refine gd_bool ?_ ?_ | refine if_bool ?_ ?_ | refine qC_bool ?_ ?_ | refine piC_bool ?_ ?_ | refine zC_bool ?_ ?_ | refine zD_bool ?_ ?_ | refine yC_bool ?_ ?_) <;> intro hh) | clear hK)
  all_goals first
    | (refine congrArg (fun x => Value.string (byt x)) ?_
       rw [← hv1, del_none (by omega)]; done)
    | (have e := del_step (l := r) (b := b) (by omega)
       have e2 : r.take (idxL r b).toNat = [] := List.eq_nil_of_length_eq_zero (by assumption)
       rw [e2, List.nil_append] at e
       refine ⟨(r.drop (idxL r b + 1).toNat, o, none), ⟨?_, ?_, hv3⟩, ?_, VS.sub2 ?_ rfl⟩
       · rw [show (idxL r b + 1).toNat = (idxL r b).toNat + 1 by omega, ← e]; exact hv1
       · simp only [List.length_drop]; omega
       · simp only [List.length_drop]; omega
       · simp [Fr.sub, Fr.get]; done)
    | (have e := del_step (l := r) (b := b) (by omega)
       have hcap' : slOk 1 (o ++ r.take (idxL r b).toNat).length (bCells (o ++ r.take (idxL r b).toNat)) (some (tl, cap)) := by
        rw [bCells_app, List.length_append]; exact hcap
       have hg : (o ++ r.take (idxL r b).toNat) ++ delL (r.drop (idxL r b + 1).toNat) b = delL l b := by
        rw [show (idxL r b + 1).toNat = (idxL r b).toNat + 1 by omega, List.append_assoc, ← e]; exact hv1
       have hg2 : (o ++ r.take (idxL r b).toNat).length + (r.drop (idxL r b + 1).toNat).length ≤ 1000 := by
        rw [List.length_append, List.length_take, List.length_drop]; omega
       first
         | (refine ⟨(r.drop (idxL r b + 1).toNat, o ++ r.take (idxL r b).toNat, some (tl, cap)), ⟨hg, hg2, hcap'⟩, ?_, VS.mvx 0 0 (by decide) (by simp) (by simp) (by simp) (by simp) ?_ (by simp [eqX, slB]) ?_ ?_⟩
            · simp only [List.length_drop]; omega
            · simp [slB, bCells_app]
            · exact ⟨slB_C (bCells_pl _) hcap', trivial⟩
            · simp only [List.length_append]; simp [mvF, Fr.get, slH, mvS, wf_int, wf_bool, wf_sl, wf_pt, wf_nils, wf_str]; done)
         | (refine ⟨(r.drop (idxL r b + 1).toNat, o ++ r.take (idxL r b).toNat, some (tl, cap)), ⟨hg, hg2, hcap'⟩, ?_, VS.mvx 0 1 (by decide) (by simp) (by simp) (by simp) (by simp) ?_ (by simp [eqX, slB]) ?_ ?_⟩
            · simp only [List.length_drop]; omega
            · simp [slB, bCells_app]
            · exact ⟨slB_C (bCells_pl _) hcap', trivial⟩
            · simp only [List.length_append]; simp [mvF, Fr.get, slH, mvS, wf_int, wf_bool, wf_sl, wf_pt, wf_nils, wf_str]; done))
end Go.Tb
end
section
namespace Go.Tb
open Go Go.Proofs
variable {z : Nat × Nat}
theorem FnP.of_below {X : Cx} {f : FuncId} {vs : List Value} {v : Value} (ha : ∀ u ∈ vs, Pl u) (hr : Pl v) (hok : callOk X.P f = true) (h : ∀ w, Calls X.P f vs.toArray w fun e w' => e = .returned v ∧ Go.RowKit.Below w.heap.size w w') : FnP X f vs v := by
  refine ⟨ha, hr, hok, fun ρ w hs _ => ?_⟩
  have e : vs.map (rl ρ) = vs := by
    conv => rhs; rw [← List.map_id vs]
    exact List.map_congr_left fun u hu => ha u hu ρ
  rw [e]
  refine (h w).mono ?_
  rintro e w' ⟨rfl, hb⟩
  refine ⟨ρ, v, [], by rw [hr ρ], rfl, hr.wf _, ?_, ?_⟩
  · refine ⟨hs.ngl, hs.glob, hs.inj, fun i hi => Nat.lt_of_lt_of_le (hs.lt i hi) hb.size, fun i c T h => ?_, fun i b c h => ?_, fun i o h => ?_⟩
    · rw [hb.block _ (hs.lt i (List.getElem?_eq_some_iff.1 h).1)]; exact hs.cells i c T h
    · refine ⟨fun j v hv => ?_, (hs.ro i b c h).2⟩
      rw [World.cell?_of_block (w := w) (a := ⟨ρ i, b + j, none⟩) (hb.block _ (hs.lt i (List.getElem?_eq_some_iff.1 h).1))]
      exact (hs.ro i b c h).1 j v hv
    · rw [hb.block _ (hs.lt i (List.getElem?_eq_some_iff.1 h).1)]; exact hs.obj i o h
  · exact ⟨hb.os, hb.tape, hb.output, hb.size, Nat.le_refl _, fun _ _ => rfl, fun i o h h1 _ => by have := (List.getElem?_eq_some_iff.1 h1).1; omega, fun j hj _ => hb.block j hj, fun _ _ h _ => h⟩
theorem upper_ok (l : List UInt8) (hl : l.length ≤ 1000) (ha : ∀ b ∈ l, b.toNat < 128) : FnP (Tz z) 101 [.string (byt l)] (.string (byt (Lib.toUpperA l))) :=
  FnP.of_below (by simp [Pl.str]) Pl.str (by kernel_rfl) fun w => Tryz.strings_ToUpper_ascii (byt l) w (by show l.length ≤ _; omega) fun j b hj => ha b (List.mem_of_getElem? hj)
theorem up_k : Lib.toUpperA [107] = [75] := by decide
theorem up_q : Lib.toUpperA [113] = [81] := by decide
end Go.Tb
end
