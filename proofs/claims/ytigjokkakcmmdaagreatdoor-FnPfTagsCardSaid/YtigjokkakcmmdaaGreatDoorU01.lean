/-
  A part of the proof (my own): of the texts that the claim's last text rests on: parts P21.
-/
import Derived.Test.YtigjokkakcmmdaaGreatDoorT25
set_option linter.unusedSimpArgs false
set_option linter.unusedVariables false
section
namespace Go.Tb
open Go Go.Proofs
set_option maxRecDepth 20000
section
variable {c : Nat → Int} {f t e r : Nat} {p x : Int} {B : Brd} {D : Pd} {s : PSt} {M : Mv} {v : Bool}
theorem or4_keep (h : tOk x ∧ onT 4 x = v) (i : Nat) (hi : i < 6) (h2 : i ≠ 2) : tOk (bor .u16 x (2 ^ i)) ∧ onT 4 (bor .u16 x (2 ^ i)) = v := by
  have := or_on h.1 i 2 hi (by decide)
  rw [show (2 : Int) ^ 2 = 4 from rfl] at this
  refine ⟨or_ok h.1 i hi, ?_⟩
  rw [this, h.2, decide_eq_false h2, Bool.or_false]
theorem tg4_cap (h : tOk M.tags) (hv : (onT 4 M.tags || !occB B.e M.s2) = v) : tOk (tg4 D B M) ∧ onT 4 (tg4 D B M) = v := by
  have t1 : tOk (tg1 D B M) ∧ onT 4 (tg1 D B M) = v := by
    unfold tg1
    cases ho : occB B.e M.s2
    · rw [ho] at hv
      rw [if_pos (by decide)]
      have := or_on h 2 2 (by decide) (by decide)
      rw [show (2 : Int) ^ 2 = 4 from rfl] at this
      exact ⟨or_ok h 2 (by decide), by rw [this, ← hv]; simp⟩
    · rw [ho] at hv
      rw [if_neg (by decide)]
      have h0 : tOk M.tags ∧ onT 4 M.tags = v := ⟨h, by rw [← hv]; simp⟩
      split
      · exact or4_keep h0 3 (by decide) (by decide)
      · exact h0
  have t2 : tOk (tg2 D B M) ∧ onT 4 (tg2 D B M) = v := by
    unfold tg2
    split
    · split
      · exact or4_keep t1 1 (by decide) (by decide)
      · split
        · exact or4_keep t1 0 (by decide) (by decide)
        · exact t1
    · exact t1
  have t3 : tOk (tg3 D B M) ∧ onT 4 (tg3 D B M) = v := by
    unfold tg3
    split
    · exact or4_keep t2 5 (by decide) (by decide)
    · exact t2
  unfold tg4
  split
  · exact or4_keep t3 4 (by decide) (by decide)
  · exact t3
theorem take_n (h : ¬ psP c f t) (p : Int) : tkB c ((f : Int), (t : Int), p) = decide (c t ≠ 0) ∧ psB c ((f : Int), (t : Int), p) = false := by
  unfold psP at h
  unfold psB tkB takesIs takesSq
  simp only [Int.toNat_natCast]
  by_cases hc : c t = 0
  · rw [if_neg (by simp [hc]), if_neg (fun e => h ⟨e.1, e.2, hc⟩)]
    simp [hc]
  · rw [if_pos hc]
    simp [hc]
theorem take_e (h : MvE c f t e) (p : Int) : tkB c ((f : Int), (t : Int), p) = true ∧ psB c ((f : Int), (t : Int), p) = true := by
  have e1 : takesIs c f t = true := by
    unfold takesIs; rw [Int.toNat_natCast, Int.toNat_natCast, if_neg (by simp [h.empty]), if_pos ⟨h.pawn, h.file⟩]
  have e2 : takesSq c f t ≠ t := by
    unfold takesSq; rw [Int.toNat_natCast, Int.toNat_natCast, if_neg (by simp [h.empty]), if_pos ⟨h.pawn, h.file⟩]
    have h1 := h.hf; have h2 := h.ht; have h3 := h.rk
    unfold atSq upOf at *
    split <;> (try split at h3) <;> omega
  unfold psB tkB
  simp only
  rw [e1, decide_eq_false e2]; exact ⟨rfl, rfl⟩
structure BitsC (c : Nat → Int) (M : Mv) : Prop where
  t8 : tagOn M 8 = psB c (toM M)
  t48 : (tagOn M 4 || tagOn M 8) = tkB c (toM M)
  t12 : (tagOn M 1 || tagOn M 2) = ksB c (toM M)
theorem BitsC.mk' {m : M3} (hto : toM M = m) {b1 b2 b4 b8 b16 b32 : Bool} (h : TagsAre M.tags b1 b2 b8 b16 b32) (h4 : onT 4 M.tags = b4) (e8 : b8 = psB c m) (e48 : (b4 || b8) = tkB c m) (e12 : (b1 || b2) = ksB c m) : BitsC c M := by
  subst hto
  refine ⟨?_, ?_, ?_⟩
  · rw [tagOn_eq, h.t8, e8]
  · rw [tagOn_eq, tagOn_eq, h.t8, h4, e48]
  · rw [tagOn_eq, tagOn_eq, h.t1, h.t2, e12]
theorem tok0 : tOk 0 := ⟨by decide, by decide⟩
theorem on40 : onT 4 0 = false := by decide
theorem qr_cap (hr : RepB c B) (hb : Bd c) (ht : t < 64) : ∀ n : Nat, tOk (qrT D B f t n) ∧ onT 4 (qrT D B f t n) = (decide (0 < n) && decide (c t ≠ 0))
  | 0 => ⟨tok0, by rw [show qrT D B f t 0 = 0 from rfl, on40]; simp⟩
  | n + 1 => by
    obtain ⟨ih1, ih2⟩ := qr_cap hr hb ht n
    refine tg4_cap (M := ⟨qrT D B f t n, f, t, (n : Int) + 2⟩) ih1 ?_
    show (onT 4 (qrT D B f t n) || !occB B.e (t : Int)) = _
    rw [ih2, occ_empty hr hb ht]
    by_cases hc : c t = 0 <;> simp [hc]
theorem nm_cap (hr : RepB c B) (hb : Bd c) (ht : t < 64) : onT 4 (nmM D B f t).tags = decide (c t ≠ 0) := by
  refine (tg4_cap (M := ⟨0, f, t, 0⟩) tok0 ?_).2
  show (onT 4 0 || !occB B.e (t : Int)) = _
  rw [occ_empty hr hb ht, on40]
  by_cases hc : c t = 0 <;> simp [hc]
theorem ks_n (h : ¬ isCastle c f t) (p : Int) : ksB c ((f : Int), (t : Int), p) = false := decide_eq_false h
theorem std_bits (hr : RepD c D B) (hi : InvC c) {M : Mv} (h : M ∈ stdL D B) : BitsC c M := by
  obtain ⟨f, t, hf, ht, ho, h1, h2, h3⟩ := (std_mem hr hi).1 h
  rcases h3 with ⟨hl, q, hq, rfl, e⟩ | ⟨hl, rfl, e⟩
  · obtain ⟨a1, a2⟩ := qr_tags hr hi hf ht ho h1 h2 hl (q + 1) (by omega)
    have hnp := last_nops hi hl h1 hf ht ho h2
    have hm := mvN_of (p := (q : Int) + 2) hi hf ht ho h1 h2 (.inr ⟨by omega, hl.1⟩) hnp
    obtain ⟨e1, e2⟩ := take_n hnp ((q : Int) + 2)
    have hcap := (qr_cap (D := D) (f := f) hr.b hi.bd ht (q + 1)).2
    refine BitsC.mk' (m := ((f : Int), (t : Int), (q : Int) + 2)) rfl a1 hcap e2.symm ?_ ?_
    · rw [e1]; simp
    · rw [ks_n hm.nocas]; rfl
  · by_cases hp : psP c f t
    · obtain ⟨e, he⟩ := mvE_of hi hf ht ho h1 h2 hp
      obtain ⟨a1, _⟩ := all_E (M := ⟨0, f, t, 0⟩) hr.b hi he hr.turn hr.ep rfl rfl rfl TagsAre.zero
      obtain ⟨e1, e2⟩ := take_e he 0
      refine BitsC.mk' (m := ((f : Int), (t : Int), 0)) rfl a1 (nm_cap (D := D) (f := f) hr.b hi.bd ht) e2.symm ?_ ?_
      · rw [e1]; simp
      · rw [ks_n (fun hk => by have := hk.1; rw [Int.toNat_natCast, he.pawn] at this; omega)]; rfl
    · have hm := mvN_of (p := 0) hi hf ht ho h1 h2 (.inl rfl) hp
      obtain ⟨a1, _⟩ := all_N (M := ⟨0, f, t, 0⟩) hr.b hi hm hr.turn hr.ep rfl rfl rfl TagsAre.zero
      obtain ⟨e1, e2⟩ := take_n hp 0
      refine BitsC.mk' (m := ((f : Int), (t : Int), 0)) rfl a1 (nm_cap (D := D) (f := f) hr.b hi.bd ht) e2.symm ?_ ?_
      · rw [e1]; simp
      · rw [ks_n hm.nocas]; rfl
theorem cas_bits (hs : RepS c s) (hi : InvC c) (hr : r < 4) (h : kC s.1 s.2.1 s.2.2 r = true) : BitsC c (kM s.2.1 s.2.2 r) := by
  have hc := (kC_iff hs hi hr).1 h
  have hmv := hc.mv hi hr
  obtain ⟨q1, q2, q3⟩ := kM0_sq hr
  obtain ⟨a1, _⟩ := all_K (M := kM0 r) hs.d.b hi hmv.toMvK hs.d.turn hs.d.ep q1 q2 q3 (kM0_tags hr)
  have hto := hmv.to
  have hk := hmv.king
  have h64 := hi.turn
  obtain ⟨g1, g2, _⟩ := cas_facts hr
  have hT : (casT r : Int) = casF r + 2 ∨ (casT r : Int) = casF r - 2 := by
    have hr4 : r = 0 ∨ r = 1 ∨ r = 2 ∨ r = 3 := by omega
    rcases hr4 with rfl | rfl | rfl | rfl <;> decide
  have hkk : kindOf (c (casF r)) = 1 := by rw [hk]; exact kind_king (by omega)
  have hps : ¬ psP c (casF r) (casT r) := fun h => by have := h.1; omega
  obtain ⟨e1, e2⟩ := take_n hps 0
  have hcap : onT 4 (kM s.2.1 s.2.2 r).tags = false := by
    refine (tg4_cap (M := kM0 r) (kM0_tags hr).ok ?_).2
    rw [q2, occ_empty hs.d.b hi.bd g2, hto]
    have hr4 : r = 0 ∨ r = 1 ∨ r = 2 ∨ r = 3 := by omega
    rcases hr4 with rfl | rfl | rfl | rfl <;> decide
  refine BitsC.mk' (m := ((casF r : Int), (casT r : Int), 0)) (kM_to _ _ hr) a1 hcap e2.symm ?_ ?_
  · rw [e1, hto]; rfl
  · rw [show ksB c ((casF r : Int), (casT r : Int), 0) = true from decide_eq_true ⟨by rw [Int.toNat_natCast]; exact hkk, hT⟩]
    have : r % 2 = 0 ∨ r % 2 = 1 := by omega
    rcases this with h | h <;> simp [h]
theorem all_bits (hs : RepS c s) (hi : InvC c) (h : M ∈ allS s) : BitsC c M := by
  unfold allS allL at h
  rcases List.mem_append.1 h with h | h
  · exact std_bits hs.d hi h
  · obtain ⟨r, hr, hk, rfl⟩ := (cs_mem 4).1 h
    exact cas_bits hs hi hr hk
end
end Go.Tb
end
