/-
  A part of the proof (my own): of the texts that the claim's last text rests on: parts P6, P7, P8, K1, Up.
-/
import Derived.Lib.Strings
import Derived.Shelf.Strings.OnBuilder
import Derived.Test.YtigjokkakcmmdaaGreatDoorProg
import Derived.Test.YtigjokkakcmmdaaGreatDoorT19
import Derived.Test.YtigjokkakcmmdaaGreatDoorT17
import Derived.Test.YtigjokkakcmmdaaGreatDoorT10
import Derived.Test.YtigjokkakcmmdaaGreatDoorT16
set_option linter.unusedSimpArgs false
set_option linter.unusedVariables false
section
namespace Go.Tb
open Go Go.Proofs
set_option maxRecDepth 20000
section
variable {c : Nat → Int} {B : Brd} {M : Mv} {f t e r : Nat} {p : Int}
theorem updB_N (hr : RepB c B) (hi : InvC c) (h : MvN c f t p) (h1 : M.s1 = f) (h2 : M.s2 = t) (h3 : M.promo = p) (t8 : tagOn M 8 = false) (t1 : tagOn M 1 = false) (t2 : tagOn M 2 = false) : RepB (madeC c f t p) (updB B M) := by
  obtain ⟨q1, q2, q3⟩ := tgt_in h.toMvB hi
  have hp : pieceAt B M.s1 = c f := by rw [h1]; exact pieceAt_rep hr hi.bd h.hf
  obtain ⟨w1, w2⟩ := kingsUp (c' := madeC c f t p) hi h1 h2 fun b hb k hk => kings_N h hi hb hk
  refine updB_of hr ?_ w1 w2
  rw [hp]
  have hA := updA_rep (c := c) (fun k hk s hs => hr.f k hk s hs) h.hf h.ht h.ne h1 h2
  have hC : ∀ X : Brd, updC (updE X M (c f)) M (c f) = X := fun X => by
    unfold updC updE
    rw [t8, t1, t2]; simp
  rw [hC]
  by_cases hp0 : p = 0
  · have e : updP (updA B M) M (c f) = updA B M := by unfold updP; rw [if_pos (by rw [h3]; exact hp0)]
    rw [e]
    refine hA.congr fun s hs => ?_
    rw [cells_N h hs, upd_at, upd_at, if_pos hp0]
  · rcases h.promo with hq | ⟨hq1, hq2⟩
    · exact absurd hq hp0
    · have hcol := col_side q1
      have hsd := h.own.2
      have hP := updP_rep (M := M) hA h.ht (p0 := c f) (q := p + 6 * c 64) (by rw [upd_at, if_pos rfl]) q1 (by rw [h3, hcol, hsd]; omega) (by omega) (by rw [h3]; exact hp0) h2
      refine hP.congr fun s hs => ?_
      rw [cells_N h hs, upd_at, upd_at, upd_at, if_neg hp0]
      by_cases hs1 : s = t
      · rw [if_pos hs1, if_pos hs1]
      · rw [if_neg hs1, if_neg hs1, if_neg hs1]
theorem updB_E (hr : RepB c B) (hi : InvC c) (h : MvE c f t e) (h1 : M.s1 = f) (h2 : M.s2 = t) (h3 : M.promo = 0) (t8 : tagOn M 8 = true) (t1 : tagOn M 1 = false) (t2 : tagOn M 2 = false) : RepB (madeC c f t 0) (updB B M) := by
  obtain ⟨q1, q2, q3⟩ := tgt_in h.toMvB hi
  have hp : pieceAt B M.s1 = c f := by rw [h1]; exact pieceAt_rep hr hi.bd h.hf
  obtain ⟨w1, w2⟩ := kingsUp (c' := madeC c f t 0) hi h1 h2 fun b hb k hk => kings_E h hi hb hk
  refine updB_of hr ?_ w1 w2
  rw [hp]
  have hA := updA_rep (c := c) (fun k hk s hs => hr.f k hk s hs) h.hf h.ht h.ne h1 h2
  have hP : updP (updA B M) M (c f) = updA B M := by unfold updP; rw [if_pos h3]
  have hC : ∀ X : Brd, updC X M (c f) = X := fun X => by unfold updC; rw [t1, t2]; simp
  rw [hP, hC]
  have hpw := h.pawn; have hlt := h.ht; have hlf := h.hf; have heq := h.eq; have htk := h.take; have hown := h.own.2; have hem := h.empty; have he := h.he
  have hkf : c f = 6 ∨ c f = 12 := by unfold kindOf at hpw; split at hpw <;> omega
  have hsb := side_b q1
  have hef : e ≠ f := by rintro rfl; omega
  have het : e ≠ t := by rintro rfl; omega
  have hce : (upd (upd c f 0) t (c f)) e = 6 + 6 * (1 - c 64) := by rw [upd_at, if_neg het, upd_at, if_neg hef]; exact htk
  have key : RepF (upd (upd (upd c f 0) t (c f)) e 0) (updE (updA B M) M (c f)) := by
    unfold updE
    rw [if_pos t8]
    rcases hkf with hkf | hkf
    · have h64 : c 64 = 0 := by rw [hkf] at hown; exact hown.symm
      have hu : upOf (c 64) = 1 := by rw [h64]; rfl
      rw [if_pos (by rw [hkf]; rfl)]
      refine off_rep hA he (r := 11) (by decide) (by rw [hce, h64]; rfl) (fun s hs => ?_) (fun k hk hk2 => ?_)
      · show occB (~~~(sqB M.s2 <<< 8) &&& (updA B M).bp) s = (occB (updA B M).bp s && !decide (e = s))
        rw [h2, sq_up (by omega), occ_and, occ_not _ hs, occ_sq (by omega) hs, Bool.and_comm, show t - 8 = e by omega]
      · rcases k12 hk with rfl | rfl | rfl | rfl | rfl | rfl | rfl | rfl | rfl | rfl | rfl | rfl <;> first | rfl | exact absurd rfl hk2
    · have h64 : c 64 = 1 := by rw [hkf] at hown; exact hown.symm
      have hu : upOf (c 64) = -1 := by rw [h64]; rfl
      rw [if_neg (by rw [hkf]; decide)]
      refine off_rep hA he (r := 5) (by decide) (by rw [hce, h64]; rfl) (fun s hs => ?_) (fun k hk hk2 => ?_)
      · show occB (~~~(sqB M.s2 >>> 8) &&& (updA B M).wp) s = (occB (updA B M).wp s && !decide (e = s))
        rw [h2, sq_dn (by omega), occ_and, occ_not _ hs, occ_sq (by omega) hs, Bool.and_comm, show t + 8 = e by omega]
      · rcases k12 hk with rfl | rfl | rfl | rfl | rfl | rfl | rfl | rfl | rfl | rfl | rfl | rfl <;> first | rfl | exact absurd rfl hk2
  refine key.congr fun s hs => ?_
  rw [cells_E h hi hs, upd_at, upd_at, upd_at]
  by_cases h5 : s = e
  · subst h5; simp [het, hef]
  · by_cases h6 : s = t
    · subst h6; simp [h5]
    · simp [h5, h6]
theorem updB_K (hr : RepB c B) (hi : InvC c) (h : MvK c r) (h1 : M.s1 = casF r) (h2 : M.s2 = casT r) (h3 : M.promo = 0) (t8 : tagOn M 8 = false) (t1 : tagOn M 1 = decide (r % 2 = 0)) (t2 : tagOn M 2 = decide (r % 2 = 1)) : RepB (madeC c (casF r) (casT r) 0) (updB B M) := by
  obtain ⟨c1, c2, c3, c4, c5, c6, c7, c8, c9, c10, c11, c12, c13⟩ := cas_facts h.hr
  have hp : pieceAt B M.s1 = c (casF r) := by rw [h1]; exact pieceAt_rep hr hi.bd c1
  obtain ⟨w1, w2⟩ := kingsUp (c' := madeC c (casF r) (casT r) 0) hi h1 h2 fun b hb k hk => kings_K h hi hb hk
  refine updB_of hr ?_ w1 w2
  rw [hp]
  have hA := updA_rep (c := c) (fun k hk s hs => hr.f k hk s hs) c1 c2 c5 h1 h2
  have hP : updP (updA B M) M (c (casF r)) = updA B M := by unfold updP; rw [if_pos h3]
  have hE : updE (updA B M) M (c (casF r)) = updA B M := by unfold updE; rw [if_neg (by rw [t8]; simp)]
  rw [hP, hE]
  have hki := h.king; have hro := h.rook; have hmi := h.mid; have hsd := h.side
  have hca : (upd (upd c (casF r) 0) (casT r) (c (casF r))) (casR r) = 3 + 6 * c 64 := by rw [upd_at, if_neg (Ne.symm c8), upd_at, if_neg (Ne.symm c6)]; exact hro
  have hcm : (upd (upd c (casF r) 0) (casT r) (c (casF r))) (casM r) = 0 := by rw [upd_at, if_neg (Ne.symm c9), upd_at, if_neg (Ne.symm c7)]; exact hmi
  have key : RepF (upd (upd (upd (upd c (casF r) 0) (casT r) (c (casF r))) (casR r) 0) (casM r) (3 + 6 * c 64)) (updC (updA B M) M (c (casF r))) := by
    unfold updC
    rw [t1, t2]
    have hr4 : r = 0 ∨ r = 1 ∨ r = 2 ∨ r = 3 := by have := h.hr; omega
    rcases hr4 with rfl | rfl | rfl | rfl
    · have h64 : c 64 = 0 := hsd
      have hpc : pCol (c (casF 0)) = 1 := by rw [hki, h64]; rfl
      have e3 : (3 + 6 * c 64 : Int) = ((2 : Nat) : Int) + 1 := by rw [h64]; rfl
      rw [if_pos (by rw [hpc]; decide), e3]
      exact rook_rep (r := 2) hA (a := 7) (b := 5) (by decide) (by decide) (by decide) (by decide) (by rw [← e3]; exact hca) hcm rfl fun k hk hk2 => by
        rcases k12 hk with rfl | rfl | rfl | rfl | rfl | rfl | rfl | rfl | rfl | rfl | rfl | rfl <;> first | rfl | exact absurd rfl hk2
    · have h64 : c 64 = 0 := hsd
      have hpc : pCol (c (casF 1)) = 1 := by rw [hki, h64]; rfl
      have e3 : (3 + 6 * c 64 : Int) = ((2 : Nat) : Int) + 1 := by rw [h64]; rfl
      rw [if_neg (by rw [hpc]; decide), if_pos (by rw [hpc]; decide), e3]
      exact rook_rep (r := 2) hA (a := 0) (b := 3) (by decide) (by decide) (by decide) (by decide) (by rw [← e3]; exact hca) hcm rfl fun k hk hk2 => by
        rcases k12 hk with rfl | rfl | rfl | rfl | rfl | rfl | rfl | rfl | rfl | rfl | rfl | rfl <;> first | rfl | exact absurd rfl hk2
    · have h64 : c 64 = 1 := hsd
      have hpc : pCol (c (casF 2)) = 2 := by rw [hki, h64]; rfl
      have e3 : (3 + 6 * c 64 : Int) = ((8 : Nat) : Int) + 1 := by rw [h64]; rfl
      rw [if_neg (by rw [hpc]; decide), if_neg (by rw [hpc]; decide), if_pos (by rw [hpc]; decide), e3]
      exact rook_rep (r := 8) hA (a := 63) (b := 61) (by decide) (by decide) (by decide) (by decide) (by rw [← e3]; exact hca) hcm rfl fun k hk hk2 => by
        rcases k12 hk with rfl | rfl | rfl | rfl | rfl | rfl | rfl | rfl | rfl | rfl | rfl | rfl <;> first | rfl | exact absurd rfl hk2
    · have h64 : c 64 = 1 := hsd
      have hpc : pCol (c (casF 3)) = 2 := by rw [hki, h64]; rfl
      have e3 : (3 + 6 * c 64 : Int) = ((8 : Nat) : Int) + 1 := by rw [h64]; rfl
      rw [if_neg (by rw [hpc]; decide), if_neg (by rw [hpc]; decide), if_neg (by rw [hpc]; decide), if_pos (by rw [hpc]; decide), e3]
      exact rook_rep (r := 8) hA (a := 56) (b := 59) (by decide) (by decide) (by decide) (by decide) (by rw [← e3]; exact hca) hcm rfl fun k hk hk2 => by
        rcases k12 hk with rfl | rfl | rfl | rfl | rfl | rfl | rfl | rfl | rfl | rfl | rfl | rfl <;> first | rfl | exact absurd rfl hk2
  refine key.congr fun s hs => ?_
  rw [cells_K h hi hs, upd_at, upd_at, upd_at, upd_at]
end
end Go.Tb
end
section
namespace Go.Tb
open Go Go.Proofs
set_option maxRecDepth 20000
def onT (g x : Int) : Bool := decide (0 < band .u16 g x)
theorem tagOn_eq (M : Mv) (g : Int) : tagOn M g = onT g M.tags := rfl
def tOk (x : Int) : Prop := 0 ≤ x ∧ x < 64
theorem or_all : ∀ x : Fin 64, ∀ i : Fin 6, (0 ≤ bor .u16 (x.val : Int) (2 ^ i.val) ∧ bor .u16 (x.val : Int) (2 ^ i.val) < 64) ∧ ∀ j : Fin 6, onT (2 ^ j.val) (bor .u16 (x.val : Int) (2 ^ i.val)) = (onT (2 ^ j.val) (x.val : Int) || decide (i.val = j.val)) := by decide +kernel
theorem or_ok {x : Int} (h : tOk x) (i : Nat) (hi : i < 6) : tOk (bor .u16 x (2 ^ i)) := by
  have := (or_all ⟨x.toNat, by have := h.1; have := h.2; omega⟩ ⟨i, hi⟩).1
  simp only [Int.toNat_of_nonneg h.1] at this
  exact this
theorem or_on {x : Int} (h : tOk x) (i j : Nat) (hi : i < 6) (hj : j < 6) : onT (2 ^ j) (bor .u16 x (2 ^ i)) = (onT (2 ^ j) x || decide (i = j)) := by
  have := (or_all ⟨x.toNat, by have := h.1; have := h.2; omega⟩ ⟨i, hi⟩).2 ⟨j, hj⟩
  simp only [Int.toNat_of_nonneg h.1] at this
  exact this
structure TagsAre (x : Int) (b1 b2 b8 b16 b32 : Bool) : Prop where
  ok : tOk x
  t1 : onT 1 x = b1
  t2 : onT 2 x = b2
  t8 : onT 8 x = b8
  t16 : onT 16 x = b16
  t32 : onT 32 x = b32
section
variable {x : Int} {b1 b2 b8 b16 b32 : Bool}
theorem TagsAre.zero : TagsAre 0 false false false false false := ⟨⟨by decide, by decide⟩, by decide, by decide, by decide, by decide, by decide⟩
theorem TagsAre.or1 (h : TagsAre x b1 b2 b8 b16 b32) : TagsAre (bor .u16 x 1) true b2 b8 b16 b32 := by
  have hh := fun j hj => or_on h.ok 0 j (by decide) hj
  exact ⟨or_ok h.ok 0 (by decide), (hh 0 (by decide)).trans (by simp), (hh 1 (by decide)).trans (by rw [show ((2 : Int) ^ 1) = 2 from rfl, h.t2]; simp), (hh 3 (by decide)).trans (by rw [show ((2 : Int) ^ 3) = 8 from rfl, h.t8]; simp), (hh 4 (by decide)).trans (by rw [show ((2 : Int) ^ 4) = 16 from rfl, h.t16]; simp), (hh 5 (by decide)).trans (by rw [show ((2 : Int) ^ 5) = 32 from rfl, h.t32]; simp)⟩
theorem TagsAre.or2 (h : TagsAre x b1 b2 b8 b16 b32) : TagsAre (bor .u16 x 2) b1 true b8 b16 b32 := by
  have hh := fun j hj => or_on h.ok 1 j (by decide) hj
  exact ⟨or_ok h.ok 1 (by decide), (hh 0 (by decide)).trans (by rw [show ((2 : Int) ^ 0) = 1 from rfl, h.t1]; simp), (hh 1 (by decide)).trans (by simp), (hh 3 (by decide)).trans (by rw [show ((2 : Int) ^ 3) = 8 from rfl, h.t8]; simp), (hh 4 (by decide)).trans (by rw [show ((2 : Int) ^ 4) = 16 from rfl, h.t16]; simp), (hh 5 (by decide)).trans (by rw [show ((2 : Int) ^ 5) = 32 from rfl, h.t32]; simp)⟩
theorem TagsAre.or4 (h : TagsAre x b1 b2 b8 b16 b32) : TagsAre (bor .u16 x 4) b1 b2 b8 b16 b32 := by
  have hh := fun j hj => or_on h.ok 2 j (by decide) hj
  exact ⟨or_ok h.ok 2 (by decide), (hh 0 (by decide)).trans (by rw [show ((2 : Int) ^ 0) = 1 from rfl, h.t1]; simp), (hh 1 (by decide)).trans (by rw [show ((2 : Int) ^ 1) = 2 from rfl, h.t2]; simp), (hh 3 (by decide)).trans (by rw [show ((2 : Int) ^ 3) = 8 from rfl, h.t8]; simp), (hh 4 (by decide)).trans (by rw [show ((2 : Int) ^ 4) = 16 from rfl, h.t16]; simp), (hh 5 (by decide)).trans (by rw [show ((2 : Int) ^ 5) = 32 from rfl, h.t32]; simp)⟩
theorem TagsAre.or8 (h : TagsAre x b1 b2 b8 b16 b32) : TagsAre (bor .u16 x 8) b1 b2 true b16 b32 := by
  have hh := fun j hj => or_on h.ok 3 j (by decide) hj
  exact ⟨or_ok h.ok 3 (by decide), (hh 0 (by decide)).trans (by rw [show ((2 : Int) ^ 0) = 1 from rfl, h.t1]; simp), (hh 1 (by decide)).trans (by rw [show ((2 : Int) ^ 1) = 2 from rfl, h.t2]; simp), (hh 3 (by decide)).trans (by simp), (hh 4 (by decide)).trans (by rw [show ((2 : Int) ^ 4) = 16 from rfl, h.t16]; simp), (hh 5 (by decide)).trans (by rw [show ((2 : Int) ^ 5) = 32 from rfl, h.t32]; simp)⟩
theorem TagsAre.or16 (h : TagsAre x b1 b2 b8 b16 b32) : TagsAre (bor .u16 x 16) b1 b2 b8 true b32 := by
  have hh := fun j hj => or_on h.ok 4 j (by decide) hj
  exact ⟨or_ok h.ok 4 (by decide), (hh 0 (by decide)).trans (by rw [show ((2 : Int) ^ 0) = 1 from rfl, h.t1]; simp), (hh 1 (by decide)).trans (by rw [show ((2 : Int) ^ 1) = 2 from rfl, h.t2]; simp), (hh 3 (by decide)).trans (by rw [show ((2 : Int) ^ 3) = 8 from rfl, h.t8]; simp), (hh 4 (by decide)).trans (by simp), (hh 5 (by decide)).trans (by rw [show ((2 : Int) ^ 5) = 32 from rfl, h.t32]; simp)⟩
theorem TagsAre.or32 (h : TagsAre x b1 b2 b8 b16 b32) : TagsAre (bor .u16 x 32) b1 b2 b8 b16 true := by
  have hh := fun j hj => or_on h.ok 5 j (by decide) hj
  exact ⟨or_ok h.ok 5 (by decide), (hh 0 (by decide)).trans (by rw [show ((2 : Int) ^ 0) = 1 from rfl, h.t1]; simp), (hh 1 (by decide)).trans (by rw [show ((2 : Int) ^ 1) = 2 from rfl, h.t2]; simp), (hh 3 (by decide)).trans (by rw [show ((2 : Int) ^ 3) = 8 from rfl, h.t8]; simp), (hh 4 (by decide)).trans (by rw [show ((2 : Int) ^ 4) = 16 from rfl, h.t16]; simp), (hh 5 (by decide)).trans (by simp)⟩
end
section
variable {c : Nat → Int} {B : Brd} {M : Mv} {D : Pd} {f t e r : Nat} {p : Int} {b1 b2 b8 b16 b32 : Bool}
noncomputable def ownC (c c' : Nat → Int) : Bool := attB c' (kingI c' (c 64)) (1 - c 64)
noncomputable def givC (c c' : Nat → Int) : Bool := attB c' (kingI c' (1 - c 64)) (c 64)
theorem tags_fin {c' : Nat → Int} (h64 : c 64 = 0 ∨ c 64 = 1) (hrep : RepB c' (afterB D B M)) (hbd : Bd c') (hk : ∀ b : Int, b = 0 ∨ b = 1 → ∃ k : Nat, KingAt c' b k) (hD : D.turn = c 64 + 1) (h2 : TagsAre (tg2 D B M) b1 b2 b8 b16 b32) : TagsAre (tg4 D B M) b1 b2 b8 (b16 || givC c c') (b32 || ownC c c') := by
  obtain ⟨k, k1⟩ := hk (c 64) h64
  obtain ⟨j, j1⟩ := hk (1 - c 64) (by omega)
  have e1 : inChk D (afterB D B M) = ownC c c' := by
    rw [inChk_iff hrep hbd h64 hD k1.1 k1.eq]; unfold ownC; rw [k1.eq]
  have e2 : inChk (otherD D) (afterB D B M) = givC c c' := by
    have ho : (otherD D).turn = (1 - c 64) + 1 := by
      show cOther D.turn = _
      rw [hD]; rcases h64 with h | h <;> rw [h] <;> rfl
    rw [inChk_iff hrep hbd (by omega) ho j1.1 j1.eq]; unfold givC; rw [j1.eq]; congr 1; omega
  have h3 : TagsAre (tg3 D B M) b1 b2 b8 b16 (b32 || ownC c c') := by
    unfold tg3; rw [e1]
    cases ownC c c'
    · simpa using h2
    · simpa using h2.or32
  unfold tg4; rw [e2]
  cases givC c c'
  · simpa using h3
  · simpa using h3.or16
structure MvN2 (c : Nat → Int) (f t : Nat) (p : Int) : Prop extends MvN c f t p where
  noep : kindOf (c f) = 6 → (t : Int) = c 66 → c t ≠ 0
  nohome : kindOf (c f) = 1 → f = 4 ∨ f = 60 → ¬ (t = 2 ∨ t = 6 ∨ t = 58 ∨ t = 62)
theorem isKing {n : Int} (h : 1 ≤ n ∧ n ≤ 12) : (n = 1 ∨ n = 7) ↔ kindOf n = 1 := by unfold kindOf; split <;> omega
theorem tg2_N (hr : RepB c B) (hi : InvC c) (h : MvN2 c f t p) (hD : D.ep = c 66) (h1 : M.s1 = f) (h2 : M.s2 = t) (h3 : TagsAre M.tags b1 b2 b8 b16 b32) : TagsAre (tg2 D B M) b1 b2 b8 b16 b32 := by
  obtain ⟨q1, q2, q3⟩ := tgt_in h.toMvB hi
  have hp : pieceAt B M.s1 = c f := by rw [h1]; exact pieceAt_rep hr hi.bd h.hf
  have t1 : TagsAre (tg1 D B M) b1 b2 b8 b16 b32 := by
    unfold tg1
    rw [hp, h2, occ_empty hr hi.bd h.ht, hD, kind_typ (by omega)]
    by_cases hc : c t = 0
    · rw [if_neg (by simp [hc]), if_neg]
      · exact h3
      · rintro ⟨a, b⟩; exact h.noep b a hc
    · rw [if_pos (by simp [hc])]; exact h3.or4
  unfold tg2
  rw [hp, h1, h2]
  by_cases hk : (c f = 1 ∧ (f : Int) = 4) ∨ (c f = 7 ∧ (f : Int) = 60)
  · rw [if_pos hk]
    have hh := h.nohome ((isKing q1).1 (by omega)) (by omega)
    rw [if_neg (by omega), if_neg (by omega)]; exact t1
  · rw [if_neg hk]; exact t1
theorem tg2_E (hr : RepB c B) (hi : InvC c) (h : MvE c f t e) (hD : D.ep = c 66) (h1 : M.s1 = f) (h2 : M.s2 = t) (h3 : TagsAre M.tags b1 b2 b8 b16 b32) : TagsAre (tg2 D B M) b1 b2 true b16 b32 := by
  obtain ⟨q1, q2, q3⟩ := tgt_in h.toMvB hi
  have hp : pieceAt B M.s1 = c f := by rw [h1]; exact pieceAt_rep hr hi.bd h.hf
  have hpw := h.pawn
  have t1 : TagsAre (tg1 D B M) b1 b2 true b16 b32 := by
    unfold tg1
    rw [hp, h2, occ_empty hr hi.bd h.ht, hD, kind_typ (by omega)]
    rw [if_neg (by simp [h.empty]), if_pos ⟨h.ep, hpw⟩]; exact h3.or8
  unfold tg2
  rw [hp, h1, h2, if_neg]
  · exact t1
  · have := (isKing q1).1
    intro hk; have := this (by omega); omega
theorem tg2_K (hr : RepB c B) (hi : InvC c) (h : MvK c r) (hD : D.ep = c 66) (h1 : M.s1 = casF r) (h2 : M.s2 = casT r) (h3 : TagsAre M.tags (decide (r % 2 = 0)) (decide (r % 2 = 1)) b8 b16 b32) : TagsAre (tg2 D B M) (decide (r % 2 = 0)) (decide (r % 2 = 1)) b8 b16 b32 := by
  obtain ⟨c1, c2, c3, c4, c5, c6, c7, c8, c9, c10, c11, c12, c13⟩ := cas_facts h.hr
  have hB := h.toB hi
  obtain ⟨q1, q2, q3⟩ := tgt_in hB hi
  have hp : pieceAt B M.s1 = c (casF r) := by rw [h1]; exact pieceAt_rep hr hi.bd c1
  have t1 : TagsAre (tg1 D B M) (decide (r % 2 = 0)) (decide (r % 2 = 1)) b8 b16 b32 := by
    unfold tg1
    rw [hp, h2, occ_empty hr hi.bd c2, hD, kind_typ (by omega)]
    rw [if_neg (by simp [h.to]), if_neg]
    · exact h3
    · rintro ⟨_, b⟩; rw [h.king, kind_king q2] at b; cases b
  have hki := h.king; have hsd := h.side
  unfold tg2
  rw [hp, h1, h2]
  have hr4 : r = 0 ∨ r = 1 ∨ r = 2 ∨ r = 3 := by have := h.hr; omega
  rcases hr4 with rfl | rfl | rfl | rfl
  · have h64 : c 64 = 0 := hsd
    rw [hki, h64, if_pos (by decide), if_neg (by decide), if_pos (by decide)]; exact t1.or1
  · have h64 : c 64 = 0 := hsd
    rw [hki, h64, if_pos (by decide), if_pos (by decide)]; exact t1.or2
  · have h64 : c 64 = 1 := hsd
    rw [hki, h64, if_pos (by decide), if_neg (by decide), if_pos (by decide)]; exact t1.or1
  · have h64 : c 64 = 1 := hsd
    rw [hki, h64, if_pos (by decide), if_pos (by decide)]; exact t1.or2
theorem king_ex {c' : Nat → Int} (hi : InvC c) (hk : ∀ b : Int, b = 0 ∨ b = 1 → ∀ k : Nat, KingAt c b k → KingAt c' b (if f = k then t else k)) : ∀ b : Int, b = 0 ∨ b = 1 → ∃ k : Nat, KingAt c' b k := fun b hb => by
  obtain ⟨k, h⟩ := hi.king b hb
  exact ⟨_, hk b hb k h⟩
theorem madeC_Bd (h : MvB c f t) (hi : InvC c) (hp : 0 ≤ p ∧ p ≤ 5) : Bd (madeC c f t p) := madeC_bd (by have := h.hf; omega) hi.bd hi.turn (by omega)
theorem all_N (hr : RepB c B) (hi : InvC c) (h : MvN2 c f t p) (hT : D.turn = c 64 + 1) (hD : D.ep = c 66) (h1 : M.s1 = f) (h2 : M.s2 = t) (hp : M.promo = p) (h3 : TagsAre M.tags false false false b16 b32) :
    TagsAre (tg4 D B M) false false false (b16 || givC c (madeC c f t p)) (b32 || ownC c (madeC c f t p)) ∧ ∀ x : Int, TagsAre x false false false (b16 || givC c (madeC c f t p)) (b32 || ownC c (madeC c f t p)) → RepB (madeC c f t p) (updB B { M with tags := x }) := by
  have h64 : c 64 = 0 ∨ c 64 = 1 := by have := hi.turn; omega
  have q := tg2_N hr hi h hD h1 h2 h3
  have hpp : 0 ≤ p ∧ p ≤ 5 := by rcases h.promo with hq | hq <;> omega
  refine ⟨tags_fin h64 (updB_N hr hi h.toMvN h1 h2 hp q.t8 q.t1 q.t2) (madeC_Bd h.toMvB hi hpp) (king_ex hi fun b hb k hk => kings_N h.toMvN hi hb hk) hT q, fun x hx => ?_⟩
  exact updB_N hr hi h.toMvN h1 h2 hp hx.t8 hx.t1 hx.t2
theorem all_E (hr : RepB c B) (hi : InvC c) (h : MvE c f t e) (hT : D.turn = c 64 + 1) (hD : D.ep = c 66) (h1 : M.s1 = f) (h2 : M.s2 = t) (hp : M.promo = 0) (h3 : TagsAre M.tags false false false b16 b32) :
    TagsAre (tg4 D B M) false false true (b16 || givC c (madeC c f t 0)) (b32 || ownC c (madeC c f t 0)) ∧ ∀ x : Int, TagsAre x false false true (b16 || givC c (madeC c f t 0)) (b32 || ownC c (madeC c f t 0)) → RepB (madeC c f t 0) (updB B { M with tags := x }) := by
  have h64 : c 64 = 0 ∨ c 64 = 1 := by have := hi.turn; omega
  have q := tg2_E hr hi h hD h1 h2 h3
  refine ⟨tags_fin h64 (updB_E hr hi h h1 h2 hp q.t8 q.t1 q.t2) (madeC_Bd h.toMvB hi (by decide)) (king_ex hi fun b hb k hk => kings_E h hi hb hk) hT q, fun x hx => ?_⟩
  exact updB_E hr hi h h1 h2 hp hx.t8 hx.t1 hx.t2
theorem all_K (hr : RepB c B) (hi : InvC c) (h : MvK c r) (hT : D.turn = c 64 + 1) (hD : D.ep = c 66) (h1 : M.s1 = casF r) (h2 : M.s2 = casT r) (hp : M.promo = 0) (h3 : TagsAre M.tags (decide (r % 2 = 0)) (decide (r % 2 = 1)) false b16 b32) :
    TagsAre (tg4 D B M) (decide (r % 2 = 0)) (decide (r % 2 = 1)) false (b16 || givC c (madeC c (casF r) (casT r) 0)) (b32 || ownC c (madeC c (casF r) (casT r) 0)) ∧ ∀ x : Int, TagsAre x (decide (r % 2 = 0)) (decide (r % 2 = 1)) false (b16 || givC c (madeC c (casF r) (casT r) 0)) (b32 || ownC c (madeC c (casF r) (casT r) 0)) → RepB (madeC c (casF r) (casT r) 0) (updB B { M with tags := x }) := by
  have h64 : c 64 = 0 ∨ c 64 = 1 := by have := hi.turn; omega
  have q := tg2_K hr hi h hD h1 h2 h3
  refine ⟨tags_fin h64 (updB_K hr hi h h1 h2 hp q.t8 q.t1 q.t2) (madeC_Bd (h.toB hi) hi (by decide)) (king_ex hi fun b hb k hk => kings_K h hi hb hk) hT q, fun x hx => ?_⟩
  exact updB_K hr hi h h1 h2 hp hx.t8 hx.t1 hx.t2
end
end Go.Tb
end
section
namespace Go.Tb
open Go Go.Proofs
set_option maxRecDepth 20000
theorem rayF_mem {c : Nat → Int} {f r dx dy : Int} {far : Bool} {t : Int} : ∀ (k n : Nat), t ∈ rayF c f r dx dy far n k ↔ ∃ m : Nat, n ≤ m ∧ m < n + k ∧ atSq (f + m * dx) (r + m * dy) = t ∧ 0 ≤ t ∧ ∀ j : Nat, n ≤ j → j < m → 0 ≤ atSq (f + j * dx) (r + j * dy) ∧ c (atSq (f + j * dx) (r + j * dy)).toNat = 0 ∧ far = true
  | 0, n => by
    simp only [rayF, List.not_mem_nil, false_iff]
    rintro ⟨m, h1, h2, _⟩; omega
  | k + 1, n => by
    unfold rayF
    by_cases h0 : atSq (f + n * dx) (r + n * dy) < 0
    · rw [if_pos h0]
      simp only [List.not_mem_nil, false_iff]
      rintro ⟨m, h1, h2, h3, h4, h5⟩
      rcases Nat.lt_or_ge n m with h | h
      · have := (h5 n (Nat.le_refl _) h).1; omega
      · have : m = n := by omega
        subst this; omega
    · rw [if_neg h0, List.mem_cons]
      by_cases h1 : far = false ∨ c (atSq (f + n * dx) (r + n * dy)).toNat ≠ 0
      · rw [if_pos h1]
        simp only [List.not_mem_nil, or_false]
        constructor
        · rintro rfl
          exact ⟨n, Nat.le_refl _, by omega, rfl, by omega, fun j a b => by omega⟩
        · rintro ⟨m, a1, a2, a3, a4, a5⟩
          rcases Nat.lt_or_ge n m with h | h
          · obtain ⟨_, b2, b3⟩ := a5 n (Nat.le_refl _) h
            rcases h1 with h1 | h1
            · rw [b3] at h1; cases h1
            · exact absurd b2 h1
          · have : m = n := by omega
            subst this; exact a3.symm
      · rw [if_neg h1, rayF_mem k (n + 1)]
        have hfar : far = true := by cases far; exact absurd (.inl rfl) h1; rfl
        have hz : c (atSq (f + n * dx) (r + n * dy)).toNat = 0 := Classical.byContradiction fun e => h1 (.inr e)
        constructor
        · rintro (rfl | ⟨m, a1, a2, a3, a4, a5⟩)
          · exact ⟨n, Nat.le_refl _, by omega, rfl, by omega, fun j a b => by omega⟩
          · refine ⟨m, by omega, by omega, a3, a4, fun j b1 b2 => ?_⟩
            rcases Nat.lt_or_ge n j with h | h
            · exact a5 j h b2
            · have : j = n := by omega
              subst this; exact ⟨by omega, hz, hfar⟩
        · rintro ⟨m, a1, a2, a3, a4, a5⟩
          rcases Nat.lt_or_ge n m with h | h
          · exact .inr ⟨m, h, by omega, a3, a4, fun j b1 b2 => a5 j (by omega) b2⟩
          · have : m = n := by omega
            subst this; exact .inl a3.symm
section
variable {c : Nat → Int} {f t : Nat}
theorem kn_ways : ∀ f t : Fin 64, (jmpL.any fun d => decide (atSq ((f.val : Int) % 8 + 1 * d.1) ((f.val : Int) / 8 + 1 * d.2) = t.val)) = decide (fdif f.val t.val * fdif f.val t.val + rdif f.val t.val * rdif f.val t.val = 5) := by decide +kernel
theorem ki_ways : ∀ f t : Fin 64, ((strL ++ slaL).any fun d => decide (atSq ((f.val : Int) % 8 + 1 * d.1) ((f.val : Int) / 8 + 1 * d.2) = t.val)) = (decide (f.val ≠ t.val) && decide (fdif f.val t.val * fdif f.val t.val ≤ 1) && decide (rdif f.val t.val * rdif f.val t.val ≤ 1)) := by decide +kernel
theorem near_mem {w : List (Int × Int)} {fm t : Int} (ht : 0 ≤ t) : t ∈ reachW c fm false w ↔ (w.any fun d => decide (atSq (fm % 8 + 1 * d.1) (fm / 8 + 1 * d.2) = t)) = true := by
  unfold reachW rayD
  simp only [List.mem_flatMap, List.any_eq_true, decide_eq_true_eq, rayF_mem]
  constructor
  · rintro ⟨d, hd, m, h1, h2, h3, h4, h5⟩
    refine ⟨d, hd, ?_⟩
    rcases Nat.lt_or_ge 1 m with h | h
    · have := (h5 1 (by omega) h).2.2; cases this
    · have : m = 1 := by omega
      subst this; exact h3
  · rintro ⟨d, hd, h⟩
    exact ⟨d, hd, 1, by omega, by omega, h, ht, fun j a b => by omega⟩
theorem ray_way {d : Int × Int} {m : Nat} (hf : f < 64) (hd : d ∈ strL ++ slaL) (h1 : 1 ≤ m) (h : atSq ((f : Int) % 8 + m * d.1) ((f : Int) / 8 + m * d.2) = t) :
    wayOf f t = d.1 + 8 * d.2 ∧ distOf f t = m ∧ f ≠ t ∧ (d ∈ strL → fdif f t = 0 ∨ rdif f t = 0) ∧ (d ∈ slaL → fdif f t = rdif f t ∨ fdif f t = -rdif f t) ∧ ∀ j : Nat, j ≤ m → atSq ((f : Int) % 8 + j * d.1) ((f : Int) / 8 + j * d.2) = f + j * (d.1 + 8 * d.2) ∧ 0 ≤ (f : Int) + j * (d.1 + 8 * d.2) := by
  have hat : ∀ a b : Int, 0 ≤ a → a ≤ 7 → 0 ≤ b → b ≤ 7 → atSq a b = 8 * b + a := fun a b h1 h2 h3 h4 => by unfold atSq; rw [if_neg (by omega)]
  have hin : ∀ a b : Int, atSq a b = t → (0 ≤ a ∧ a ≤ 7) ∧ (0 ≤ b ∧ b ≤ 7) ∧ (t : Int) = 8 * b + a := fun a b h => by
    unfold atSq at h; split at h <;> omega
  obtain ⟨g1, g2, g3⟩ := hin _ _ h
  simp only [strL, slaL, List.mem_append, List.mem_cons, List.not_mem_nil, or_false] at hd
  rcases hd with (rfl | rfl | rfl | rfl) | (rfl | rfl | rfl | rfl) <;> simp only [Int.mul_zero, Int.mul_one, Int.add_zero, Int.mul_neg, Int.zero_add] at g1 g2 g3 ⊢
  · refine ⟨?_, ?_, by omega, fun _ => .inl (by unfold fdif; omega), fun hx => by simp [slaL] at hx, fun j hj => ⟨by rw [hat _ _ (by omega) (by omega) (by omega) (by omega)]; omega, by omega⟩⟩
    · unfold wayOf; rw [show fdif f t = 0 by unfold fdif; omega, sgn_p (n := rdif f t) (by unfold rdif; omega)]; rfl
    · unfold distOf fdif rdif; omega
  · refine ⟨?_, ?_, by omega, fun _ => .inr (by unfold rdif; omega), fun hx => by simp [slaL] at hx, fun j hj => ⟨by rw [hat _ _ (by omega) (by omega) (by omega) (by omega)]; omega, by omega⟩⟩
    · unfold wayOf; rw [show rdif f t = 0 by unfold rdif; omega, sgn_p (n := fdif f t) (by unfold fdif; omega)]; rfl
    · unfold distOf fdif rdif; omega
  · refine ⟨?_, ?_, by omega, fun _ => .inl (by unfold fdif; omega), fun hx => by simp [slaL] at hx, fun j hj => ⟨by rw [hat _ _ (by omega) (by omega) (by omega) (by omega)]; omega, by omega⟩⟩
    · unfold wayOf; rw [show fdif f t = 0 by unfold fdif; omega, sgn_n (n := rdif f t) (by unfold rdif; omega)]; rfl
    · unfold distOf fdif rdif; omega
  · refine ⟨?_, ?_, by omega, fun _ => .inr (by unfold rdif; omega), fun hx => by simp [slaL] at hx, fun j hj => ⟨by rw [hat _ _ (by omega) (by omega) (by omega) (by omega)]; omega, by omega⟩⟩
    · unfold wayOf; rw [show rdif f t = 0 by unfold rdif; omega, sgn_n (n := fdif f t) (by unfold fdif; omega)]; rfl
    · unfold distOf fdif rdif; omega
  · refine ⟨?_, ?_, by omega, fun hx => by simp [strL] at hx, fun _ => .inl (by unfold fdif rdif; omega), fun j hj => ⟨by rw [hat _ _ (by omega) (by omega) (by omega) (by omega)]; omega, by omega⟩⟩
    · unfold wayOf; rw [sgn_p (n := fdif f t) (by unfold fdif; omega), sgn_p (n := rdif f t) (by unfold rdif; omega)]; rfl
    · unfold distOf fdif rdif; omega
  · refine ⟨?_, ?_, by omega, fun hx => by simp [strL] at hx, fun _ => .inr (by unfold fdif rdif; omega), fun j hj => ⟨by rw [hat _ _ (by omega) (by omega) (by omega) (by omega)]; omega, by omega⟩⟩
    · unfold wayOf; rw [sgn_p (n := fdif f t) (by unfold fdif; omega), sgn_n (n := rdif f t) (by unfold rdif; omega)]; rfl
    · unfold distOf fdif rdif; omega
  · refine ⟨?_, ?_, by omega, fun hx => by simp [strL] at hx, fun _ => .inl (by unfold fdif rdif; omega), fun j hj => ⟨by rw [hat _ _ (by omega) (by omega) (by omega) (by omega)]; omega, by omega⟩⟩
    · unfold wayOf; rw [sgn_n (n := fdif f t) (by unfold fdif; omega), sgn_n (n := rdif f t) (by unfold rdif; omega)]; rfl
    · unfold distOf fdif rdif; omega
  · refine ⟨?_, ?_, by omega, fun hx => by simp [strL] at hx, fun _ => .inr (by unfold fdif rdif; omega), fun j hj => ⟨by rw [hat _ _ (by omega) (by omega) (by omega) (by omega)]; omega, by omega⟩⟩
    · unfold wayOf; rw [sgn_n (n := fdif f t) (by unfold fdif; omega), sgn_p (n := rdif f t) (by unfold rdif; omega)]; rfl
    · unfold distOf fdif rdif; omega
theorem way_str (hf : f < 64) (ht : t < 64) (hn : f ≠ t) (h : fdif f t = 0 ∨ rdif f t = 0) : ∃ d, d ∈ strL ∧ ∃ m : Nat, 1 ≤ m ∧ m < 8 ∧ atSq ((f : Int) % 8 + m * d.1) ((f : Int) / 8 + m * d.2) = t := by
  have hat : ∀ a b : Int, 0 ≤ a → a ≤ 7 → 0 ≤ b → b ≤ 7 → atSq a b = 8 * b + a := fun a b h1 h2 h3 h4 => by unfold atSq; rw [if_neg (by omega)]
  unfold fdif rdif at h
  rcases h with h | h
  · rcases Nat.lt_or_ge f t with h2 | h2
    · refine ⟨(0, 1), by simp [strL], t / 8 - f / 8, by omega, by omega, ?_⟩
      simp only [Int.mul_zero, Int.mul_one, Int.add_zero]
      rw [hat _ _ (by omega) (by omega) (by omega) (by omega)]; omega
    · refine ⟨(0, -1), by simp [strL], f / 8 - t / 8, by omega, by omega, ?_⟩
      simp only [Int.mul_zero, Int.mul_one, Int.add_zero, Int.mul_neg]
      rw [hat _ _ (by omega) (by omega) (by omega) (by omega)]; omega
  · rcases Nat.lt_or_ge f t with h2 | h2
    · refine ⟨(1, 0), by simp [strL], t - f, by omega, by omega, ?_⟩
      simp only [Int.mul_zero, Int.mul_one, Int.add_zero]
      rw [hat _ _ (by omega) (by omega) (by omega) (by omega)]; omega
    · refine ⟨(-1, 0), by simp [strL], f - t, by omega, by omega, ?_⟩
      simp only [Int.mul_zero, Int.mul_one, Int.add_zero, Int.mul_neg]
      rw [hat _ _ (by omega) (by omega) (by omega) (by omega)]; omega
theorem way_sla (hf : f < 64) (ht : t < 64) (hn : f ≠ t) (h : fdif f t = rdif f t ∨ fdif f t = -rdif f t) : ∃ d, d ∈ slaL ∧ ∃ m : Nat, 1 ≤ m ∧ m < 8 ∧ atSq ((f : Int) % 8 + m * d.1) ((f : Int) / 8 + m * d.2) = t := by
  have hat : ∀ a b : Int, 0 ≤ a → a ≤ 7 → 0 ≤ b → b ≤ 7 → atSq a b = 8 * b + a := fun a b h1 h2 h3 h4 => by unfold atSq; rw [if_neg (by omega)]
  unfold fdif rdif at h
  rcases h with h | h
  · rcases Nat.lt_or_ge f t with h2 | h2
    · refine ⟨(1, 1), by simp [slaL], t / 8 - f / 8, by omega, by omega, ?_⟩
      simp only [Int.mul_one]
      rw [hat _ _ (by omega) (by omega) (by omega) (by omega)]; omega
    · refine ⟨(-1, -1), by simp [slaL], f / 8 - t / 8, by omega, by omega, ?_⟩
      simp only [Int.mul_one, Int.mul_neg]
      rw [hat _ _ (by omega) (by omega) (by omega) (by omega)]; omega
  · rcases Nat.lt_or_ge f t with h2 | h2
    · refine ⟨(-1, 1), by simp [slaL], t / 8 - f / 8, by omega, by omega, ?_⟩
      simp only [Int.mul_one, Int.mul_neg]
      rw [hat _ _ (by omega) (by omega) (by omega) (by omega)]; omega
    · refine ⟨(1, -1), by simp [slaL], f / 8 - t / 8, by omega, by omega, ?_⟩
      simp only [Int.mul_one, Int.mul_neg]
      rw [hat _ _ (by omega) (by omega) (by omega) (by omega)]; omega
theorem far_mem {w : List (Int × Int)} (hw : ∀ d ∈ w, d ∈ strL ++ slaL) (hf : f < 64) : (t : Int) ∈ reachW c f true w ↔ (∃ d ∈ w, ∃ m : Nat, 1 ≤ m ∧ m < 8 ∧ atSq ((f : Int) % 8 + m * d.1) ((f : Int) / 8 + m * d.2) = t) ∧ clearP c f t (distOf f t) := by
  unfold reachW rayD
  simp only [List.mem_flatMap, rayF_mem]
  constructor
  · rintro ⟨d, hd, m, h1, h2, h3, h4, h5⟩
    obtain ⟨g1, g2, _, _, _, g3⟩ := ray_way hf (hw d hd) h1 h3
    refine ⟨⟨d, hd, m, h1, by omega, h3⟩, fun k k1 k2 => ?_⟩
    rw [g2] at k2
    have := (h5 k k1 k2).2.1
    rw [(g3 k (by omega)).1] at this
    rw [g1]; exact this
  · rintro ⟨⟨d, hd, m, h1, h2, h3⟩, hc⟩
    obtain ⟨g1, g2, _, _, _, g3⟩ := ray_way hf (hw d hd) h1 h3
    refine ⟨d, hd, m, h1, by omega, h3, by omega, fun j j1 j2 => ?_⟩
    have := hc j j1 (by omega)
    rw [g1] at this
    rw [(g3 j (by omega)).1]
    exact ⟨(g3 j (by omega)).2, this, trivial⟩
def reachP (c : Nat → Int) (f t : Nat) : Prop := f ≠ t ∧
  (if kindOf (c f) = 1 then fdif f t * fdif f t ≤ 1 ∧ rdif f t * rdif f t ≤ 1
   else if kindOf (c f) = 5 then fdif f t * fdif f t + rdif f t * rdif f t = 5
   else if kindOf (c f) = 2 then ((fdif f t = 0 ∨ rdif f t = 0) ∨ (fdif f t = rdif f t ∨ fdif f t = -rdif f t)) ∧ clearP c f t (distOf f t)
   else if kindOf (c f) = 3 then (fdif f t = 0 ∨ rdif f t = 0) ∧ clearP c f t (distOf f t)
   else if kindOf (c f) = 4 then (fdif f t = rdif f t ∨ fdif f t = -rdif f t) ∧ clearP c f t (distOf f t)
   else False)
theorem reachL_iff (hf : f < 64) (ht : t < 64) (hk : 1 ≤ kindOf (c f) ∧ kindOf (c f) ≤ 5) : (t : Int) ∈ reachL c f ↔ reachP c f t := by
  unfold reachL reachP
  rw [Int.toNat_natCast]
  have hcs : kindOf (c f) = 1 ∨ kindOf (c f) = 2 ∨ kindOf (c f) = 3 ∨ kindOf (c f) = 4 ∨ kindOf (c f) = 5 := by omega
  rcases hcs with e | e | e | e | e
  · simp only [e, wayF, wayL, ↓reduceIte]
    rw [near_mem (by omega), ki_ways ⟨f, hf⟩ ⟨t, ht⟩]
    simp only [Bool.and_eq_true, decide_eq_true_eq, and_assoc]
  · simp only [e, wayF, wayL, ↓reduceIte, Int.reduceEq]
    rw [far_mem (fun d hd => hd) hf]
    constructor
    · rintro ⟨⟨d, hd, m, h1, h2, h3⟩, hc⟩
      obtain ⟨_, _, g1, g2, g3, _⟩ := ray_way hf hd h1 h3
      refine ⟨g1, ?_, hc⟩
      rcases List.mem_append.1 hd with h | h
      · exact .inl (g2 h)
      · exact .inr (g3 h)
    · rintro ⟨hn, hl, hc⟩
      refine ⟨?_, hc⟩
      rcases hl with hl | hl
      · obtain ⟨d, hd, r⟩ := way_str hf ht hn hl; exact ⟨d, List.mem_append_left _ hd, r⟩
      · obtain ⟨d, hd, r⟩ := way_sla hf ht hn hl; exact ⟨d, List.mem_append_right _ hd, r⟩
  · simp only [e, wayF, wayL, ↓reduceIte, Int.reduceEq]
    rw [far_mem (fun d hd => List.mem_append_left _ hd) hf]
    constructor
    · rintro ⟨⟨d, hd, m, h1, h2, h3⟩, hc⟩
      obtain ⟨_, _, g1, g2, g3, _⟩ := ray_way hf (List.mem_append_left _ hd) h1 h3
      exact ⟨g1, g2 hd, hc⟩
    · rintro ⟨hn, hl, hc⟩
      exact ⟨way_str hf ht hn hl, hc⟩
  · simp only [e, wayF, wayL, ↓reduceIte, Int.reduceEq]
    rw [far_mem (fun d hd => List.mem_append_right _ hd) hf]
    constructor
    · rintro ⟨⟨d, hd, m, h1, h2, h3⟩, hc⟩
      obtain ⟨_, _, g1, g2, g3, _⟩ := ray_way hf (List.mem_append_right _ hd) h1 h3
      exact ⟨g1, g3 hd, hc⟩
    · rintro ⟨hn, hl, hc⟩
      exact ⟨way_sla hf ht hn hl, hc⟩
  · simp only [e, wayF, wayL, ↓reduceIte, Int.reduceEq]
    rw [near_mem (by omega), kn_ways ⟨f, hf⟩ ⟨t, ht⟩, decide_eq_true_eq]
    refine ⟨fun h => ⟨?_, h⟩, fun h => h.2⟩
    rintro rfl
    rw [show fdif (f : Nat) (f : Nat) = 0 by unfold fdif; omega, show rdif (f : Nat) (f : Nat) = 0 by unfold rdif; omega] at h
    simp at h
theorem pmB_iff {D : Pd} {B : Brd} (hr : RepB c B) (hb : Bd c) (hf : f < 64) (ht : t < 64) (hk : 1 ≤ kindOf (c f) ∧ kindOf (c f) ≤ 5) : occB (pmB D B (kindOf (c f)) f) t = true ↔ reachP c f t := by
  have ho := fun u hu => occ_full hr hb (s := u) hu
  unfold pmB reachP
  have hcs : kindOf (c f) = 1 ∨ kindOf (c f) = 2 ∨ kindOf (c f) = 3 ∨ kindOf (c f) = 4 ∨ kindOf (c f) = 5 := by omega
  rcases hcs with e | e | e | e | e
  · simp only [e, ↓reduceIte, Int.toNat_natCast]
    rw [tab_king ⟨f, hf⟩ ⟨t, ht⟩]
    simp only [Bool.and_eq_true, decide_eq_true_eq, and_assoc]
  · simp only [e, ↓reduceIte, Int.reduceEq]
    rw [occ_or, Bool.or_eq_true, hv_iff hf ht ho, dia_iff hf ht ho]
    constructor
    · rintro (⟨a, b, d⟩ | ⟨a, b, d⟩)
      · exact ⟨b, .inr a, d⟩
      · exact ⟨b, .inl a, d⟩
    · rintro ⟨b, a | a, d⟩
      · exact .inr ⟨a, b, d⟩
      · exact .inl ⟨a, b, d⟩
  · simp only [e, ↓reduceIte, Int.reduceEq]
    rw [hv_iff hf ht ho]
    exact ⟨fun ⟨a, b, d⟩ => ⟨b, a, d⟩, fun ⟨b, a, d⟩ => ⟨a, b, d⟩⟩
  · simp only [e, ↓reduceIte, Int.reduceEq]
    rw [dia_iff hf ht ho]
    exact ⟨fun ⟨a, b, d⟩ => ⟨b, a, d⟩, fun ⟨b, a, d⟩ => ⟨a, b, d⟩⟩
  · simp only [e, ↓reduceIte, Int.reduceEq, Int.toNat_natCast]
    rw [tab_knight ⟨f, hf⟩ ⟨t, ht⟩, decide_eq_true_eq]
    refine ⟨fun h => ⟨?_, h⟩, fun h => h.2⟩
    rintro rfl
    rw [show fdif (f : Nat) (f : Nat) = 0 by unfold fdif; omega, show rdif (f : Nat) (f : Nat) = 0 by unfold rdif; omega] at h
    simp at h
theorem reach_hits (hc : c f ≠ 0) (hk : 1 ≤ kindOf (c f) ∧ kindOf (c f) ≤ 5) (h : reachP c f t) : hitsP c f t := by
  obtain ⟨h1, h2⟩ := h
  refine ⟨by omega, by rw [Int.toNat_natCast]; exact hc, ?_⟩
  rw [Int.toNat_natCast]
  have hcs : kindOf (c f) = 1 ∨ kindOf (c f) = 2 ∨ kindOf (c f) = 3 ∨ kindOf (c f) = 4 ∨ kindOf (c f) = 5 := by omega
  rcases hcs with e | e | e | e | e <;> simp [e, strP, slaP] at h2 ⊢
  · exact h2
  · exact h2
  · exact h2
  · exact h2
  · exact h2
end
end Go.Tb
end
section
namespace Go.Tb
open Go Go.Proofs
variable {z : Nat × Nat}
set_option maxRecDepth 20000
def byt (l : List UInt8) : ByteArray := ⟨l.toArray⟩
theorem bs_size (l : List UInt8) : (byt l).size = l.length := rfl
theorem bs_extract (l : List UInt8) (a b : Nat) : (byt l).extract a b = byt ((l.drop a).take (b - a)) := Go.Lib.extract_eq _ _ _
theorem bs_toList (l : List UInt8) : (byt l).toList = l := by
  have h := Go.Lib.extract_toList (byt l) 0 l.length
  rw [bs_extract] at h
  simp only [List.drop_zero, Nat.sub_zero, List.take_length] at h
  exact h.trans (by show l.take l.length = l; rw [List.take_length])
def bAt (l : List UInt8) (k : Nat) : UInt8 := l.getD k 0
theorem bAt_one {l : List UInt8} {k : Nat} (h : k < l.length) : (l.drop k).take 1 = [bAt l k] := by
  rw [List.drop_eq_getElem_cons h, List.take_succ_cons, List.take_zero]
  simp [bAt, List.getD_eq_getElem?_getD, h]
theorem t9 : tStr Tryz.prog 9 = true := by kernel_rfl
theorem sl9 {l : List UInt8} {i j : Int} (h : 0 ≤ i ∧ i ≤ j ∧ j ≤ l.length) : sliceV Tryz.prog 9 (.string (byt l)) (some (some (.int .i64 i))) (some (some (.int .i64 j))) = some (.string (byt ((l.drop i.toNat).take (j.toNat - i.toNat)))) := by
  have hs := bs_size l
  simp only [sliceV, t9, if_true, bdV]
  rw [if_pos (by omega), Option.bind_some, if_pos (by omega), Option.map_some, bs_extract]
theorem sl9k {l : List UInt8} {k : Nat} (h : k < l.length) : sliceV Tryz.prog 9 (.string (byt l)) (some (some (.int .i64 k))) (some (some (.int .i64 ((k : Int) + 1)))) = some (.string (byt [bAt l k])) := by
  rw [sl9 (by omega), Int.toNat_natCast, show ((k : Int) + 1).toNat - k = 1 by omega, bAt_one h]
theorem sl9lo {l : List UInt8} {i : Int} (h : 0 ≤ i ∧ i ≤ l.length) : sliceV Tryz.prog 9 (.string (byt l)) none (some (some (.int .i64 i))) = some (.string (byt (l.take i.toNat))) := by
  have hs := bs_size l
  simp only [sliceV, t9, if_true, bdV]
  rw [if_pos (by omega), Option.bind_some, Option.map_some, bs_extract, List.drop_zero, Nat.sub_zero]
theorem sl9hi {l : List UInt8} {i : Int} (h : 0 ≤ i ∧ i ≤ l.length) : sliceV Tryz.prog 9 (.string (byt l)) (some (some (.int .i64 i))) none = some (.string (byt (l.drop i.toNat))) := by
  have hs := bs_size l
  simp only [sliceV, t9, if_true, bdV]
  rw [Option.bind_some, if_pos (by omega), Option.map_some, bs_extract, hs, List.take_of_length_le (by simp)]
theorem beq1 (a b : UInt8) : (([a] : List UInt8) == [b]) = decide (a = b) := by
  by_cases h : a = b
  · subst h; simp
  · simp [h]
def idxL (l : List UInt8) (b : UInt8) : Int := findI (fun k => decide (bAt l k = b)) l.length
attribute [local irreducible] byt in
set_option maxHeartbeats 2000000 in
theorem index_ok (l : List UInt8) (b : UInt8) (hl : l.length ≤ 1000) : FnP (Tz z) 91 [.string (byt l), .string (byt [b])] (.int .i64 (idxL l b)) := by
  refine ⟨by simp [Pl.str], Pl.int, start [0, 1, 4, 5, 12, 23] Tryz.func91 rfl (by decide) rfl (by kernel_rfl) (by simp [Tryz.f91]) ?_⟩
  simp only [Tryz.f91]
  repeat' (first | with_reducible refine loop (c := Code.seq (Code.seq (Code.region 2 _ _) _) _) (V := [0, 1, 4, 5, 12, 23]) (fun k : Nat => ([(0, .string (byt l)), (1, .string (byt [b])), (5, .int .i64 k)], [])) (fun k => k ≤ l.length ∧ ∀ i, i < k → bAt l i ≠ b) (fun k => l.length - k) 0 (by kernel_rfl) ?_ ?_ (fun k hk => ?_) | with_reducible refine seq_k fun K hK => ?_ | (with_reducible refine hK _ _ ?_; clear hK) | with_reducible refine gd_dec (fun hh => ?_) (fun hh => ?_) | with_reducible refine gd_ndec (fun hh => ?_) (fun hh => ?_) | with_reducible refine qC_dec (fun hh => ?_) (fun hh => ?_) | with_reducible refine qC_ndec (fun hh => ?_) (fun hh => ?_) | with_reducible refine piC_dec (fun hh => ?_) (fun hh => ?_) | with_reducible refine piC_ndec (fun hh => ?_) (fun hh => ?_) | with_reducible refine zC_dec (fun hh => ?_) (fun hh => ?_) | with_reducible refine zC_ndec (fun hh => ?_) (fun hh => ?_) | with_reducible refine zD_dec (fun hh => ?_) (fun hh => ?_) | with_reducible refine yC_dec (fun hh => ?_) (fun hh => ?_) | with_reducible refine yC_ndec (fun hh => ?_) (fun hh => ?_) | with_reducible refine if_dec (fun hh => ?_) (fun hh => ?_) | with_reducible refine if_ndec (fun hh => ?_) (fun hh => ?_) | simp -implicitDefEqProofs (disch := first | omega | assumption) only [go_sem, ↓reduceIte, Nat.reduceEqDiff, Int.reduceEq, Nat.reduceAdd, Nat.reduceSub, Nat.reduceMul, Nat.mul_one, Nat.one_mul, List.length_nil, List.length_cons, List.nil_append, List.cons_append, List.length_append, List.set_cons_zero, List.set_cons_succ, Nat.zero_add, Nat.sub_zero, Option.isNone_none, Option.isNone_some, Int.toNat_natCast, Nat.add_sub_cancel_left, Bool.not_true, Bool.not_false, BitVec.reduceOfInt, Int.reduceToNat, bs_size, bs_toList, sl9k, beq1, Int.natCast_one] | with_reducible refine gd_bool (fun hh => ?_) (fun hh => ?_) | with_reducible refine if_bool (fun hh => ?_) (fun hh => ?_) | with_reducible refine qC_bool (fun hh => ?_) (fun hh => ?_) | with_reducible refine piC_bool (fun hh => ?_) (fun hh => ?_) | with_reducible refine zC_bool (fun hh => ?_) (fun hh => ?_) | with_reducible refine zD_bool (fun hh => ?_) (fun hh => ?_) | with_reducible refine yC_bool (fun hh => ?_) (fun hh => ?_) | clear hK)
  all_goals first
    | exact ⟨Nat.zero_le _, fun i hi => by omega⟩
    | (refine VS.sub2 ?_ rfl
       simp [Fr.sub, Fr.get]; done)
    | (refine congrArg (Value.int .i64) ?_
       exact (findI_at (k := k) (by omega) (by simpa using hh) (fun i hi => by simpa using hk.2 i hi)).symm)
    | (refine ⟨k + 1, ⟨by omega, all_succ hk.2 hh⟩, by omega, VS.sub2 ?_ rfl⟩
       simp [Fr.sub, Fr.get]; done)
    | (refine congrArg (Value.int .i64) ?_
       exact (findI_no (fun i hi => by simpa using hk.2 i (by omega))).symm)
end Go.Tb
end
section
namespace Go.Proofs
open Go.Shelf
def Tryz.lays158_ren : Go.Shelf.Ren := ⟨fun | 158 => 101 | 165 => 105 | 166 => 106 | 167 => 107 | 169 => 108 | 230 => 109 | 203 => 110 | 240 => 112 | 241 => 113 | 197 => 114 | 118 => 115 | 168 => 116 | 270 => 117 | 262 => 118 | 276 => 120 | 277 => 121 | 260 => 122 | 242 => 123 | 313 => 124 | 278 => 126 | 274 => 127 | 275 => 128 | n => n, fun | 9 => 9 | 4 => 4 | 3 => 3 | 5 => 5 | 72 => 154 | 0 => 0 | 76 => 158 | 75 => 157 | 107 => 163 | 70 => 152 | 20 => 20 | 37 => 137 | 127 => 165 | 21 => 21 | 105 => 166 | 164 => 173 | 162 => 179 | 203 => 177 | 119 => 180 | 46 => 53 | 139 => 183 | 138 => 182 | 51 => 184 | 160 => 185 | 208 => 191 | 206 => 189 | 80 => 161 | n => n, fun | 13 => 8 | 3 => 10 | 4 => 11 | n => n⟩
theorem Tryz.lays158 : Go.Proofs.Lays.n158 Tryz.prog Tryz.lays158_ren := {
  mixed := by kernel_rfl
  f118 := Tryz.func115.trans (congrArg some (by kernel_rfl))
  f158 := Tryz.func101.trans (congrArg some (by kernel_rfl))
  f165 := Tryz.func105.trans (congrArg some (by kernel_rfl))
  f166 := Tryz.func106.trans (congrArg some (by kernel_rfl))
  f167 := Tryz.func107.trans (congrArg some (by kernel_rfl))
  f168 := Tryz.func116.trans (congrArg some (by kernel_rfl))
  f169 := Tryz.func108.trans (congrArg some (by kernel_rfl))
  f197 := Tryz.func114.trans (congrArg some (by kernel_rfl))
  f203 := Tryz.func110.trans (congrArg some (by kernel_rfl))
  f230 := Tryz.func109.trans (congrArg some (by kernel_rfl))
  f240 := Tryz.func112.trans (congrArg some (by kernel_rfl))
  f241 := Tryz.func113.trans (congrArg some (by kernel_rfl))
  f242 := Tryz.func123.trans (congrArg some (by kernel_rfl))
  f260 := Tryz.func122.trans (congrArg some (by kernel_rfl))
  f262 := Tryz.func118.trans (congrArg some (by kernel_rfl))
  f270 := Tryz.func117.trans (congrArg some (by kernel_rfl))
  f274 := Tryz.func127.trans (congrArg some (by kernel_rfl))
  f275 := Tryz.func128.trans (congrArg some (by kernel_rfl))
  f276 := Tryz.func120.trans (congrArg some (by kernel_rfl))
  f277 := Tryz.func121.trans (congrArg some (by kernel_rfl))
  f278 := Tryz.func126.trans (congrArg some (by kernel_rfl))
  f313 := Tryz.func124.trans (congrArg some (by kernel_rfl))
  t0 := Tryz.underlying0
  a0 := Tryz.isAgg0
  z0 := Tryz.sizeOf0
  v0 := Tryz.zeroValue0
  t3 := Tryz.underlying3
  a3 := Tryz.isAgg3
  z3 := Tryz.sizeOf3
  v3 := Tryz.zeroValue3
  t4 := Tryz.underlying4
  a4 := Tryz.isAgg4
  z4 := Tryz.sizeOf4
  v4 := Tryz.zeroValue4
  t5 := Tryz.underlying5
  a5 := Tryz.isAgg5
  z5 := Tryz.sizeOf5
  v5 := Tryz.zeroValue5
  t9 := Tryz.underlying9
  a9 := Tryz.isAgg9
  z9 := Tryz.sizeOf9
  v9 := Tryz.zeroValue9
  t20 := Tryz.underlying20
  a20 := Tryz.isAgg20
  z20 := Tryz.sizeOf20
  v20 := Tryz.zeroValue20
  t21 := Tryz.underlying21
  a21 := Tryz.isAgg21
  z21 := Tryz.sizeOf21
  v21 := Tryz.zeroValue21
  t37 := Tryz.underlying137
  a37 := Tryz.isAgg137
  z37 := Tryz.sizeOf137
  v37 := Tryz.zeroValue137
  t46 := Tryz.underlying53
  a46 := Tryz.isAgg53
  z46 := Tryz.sizeOf53
  v46 := Tryz.zeroValue53
  t51 := Tryz.underlying184
  a51 := Tryz.isAgg184
  z51 := Tryz.sizeOf184
  v51 := Tryz.zeroValue184
  t70 := Tryz.underlying152
  a70 := Tryz.isAgg152
  z70 := Tryz.sizeOf152
  v70 := Tryz.zeroValue152
  t72 := Tryz.underlying154
  a72 := Tryz.isAgg154
  z72 := Tryz.sizeOf154
  v72 := Tryz.zeroValue154
  t75 := Tryz.underlying157
  a75 := Tryz.isAgg157
  z75 := Tryz.sizeOf157
  v75 := Tryz.zeroValue157
  t76 := Tryz.underlying158
  a76 := Tryz.isAgg158
  z76 := Tryz.sizeOf158
  v76 := Tryz.zeroValue158
  t105 := Tryz.underlying166
  a105 := Tryz.isAgg166
  z105 := Tryz.sizeOf166
  v105 := Tryz.zeroValue166
  t107 := Tryz.underlying163
  a107 := Tryz.isAgg163
  z107 := Tryz.sizeOf163
  v107 := Tryz.zeroValue163
  t119 := Tryz.underlying180
  a119 := Tryz.isAgg180
  z119 := Tryz.sizeOf180
  t127 := Tryz.underlying165
  a127 := Tryz.isAgg165
  z127 := Tryz.sizeOf165
  v127 := Tryz.zeroValue165
  t138 := Tryz.underlying182
  a138 := Tryz.isAgg182
  z138 := Tryz.sizeOf182
  v138 := Tryz.zeroValue182
  t139 := Tryz.underlying183
  a139 := Tryz.isAgg183
  z139 := Tryz.sizeOf183
  v139 := Tryz.zeroValue183
  t160 := Tryz.underlying185
  a160 := Tryz.isAgg185
  z160 := Tryz.sizeOf185
  v160 := Tryz.zeroValue185
  t162 := Tryz.underlying179
  a162 := Tryz.isAgg179
  z162 := Tryz.sizeOf179
  v162 := Tryz.zeroValue179
  t164 := Tryz.underlying173
  a164 := Tryz.isAgg173
  z164 := Tryz.sizeOf173
  v164 := Tryz.zeroValue173
  t203 := Tryz.underlying177
  a203 := Tryz.isAgg177
  z203 := Tryz.sizeOf177
  v203 := Tryz.zeroValue177
  t206 := Tryz.underlying189
  a206 := Tryz.isAgg189
  z206 := Tryz.sizeOf189
  v206 := Tryz.zeroValue189
  t208 := Tryz.underlying191
  a208 := Tryz.isAgg191
  z208 := Tryz.sizeOf191
  v208 := Tryz.zeroValue191
  g3 := by kernel_rfl
  g4 := by kernel_rfl
  g13 := by kernel_rfl }
theorem Tryz.Builder_Extra_158 : Builder.Extra Tryz.prog Tryz.lays158_ren := {
  sizeBuilder := by kernel_rfl
  liesBuilder := by kernel_rfl
  t5 := Tryz.underlying5
  a5 := Tryz.isAgg5
  z5 := Tryz.sizeOf5
  v5 := Tryz.zeroValue5
  infoByte := by kernel_rfl
  cellsByte := by kernel_rfl
  sizeByte := by kernel_rfl
  neB5 := by decide }
open Go.RowKit in
theorem Tryz.strings_ToUpper_ascii (s : ByteArray) (w : World) (hs : s.size ≤ 140737488355328) (hascii : ∀ (j : Nat) (b : UInt8), s.data.toList[j]? = some b → b.toNat < 128) :
    Calls Tryz.prog 101 #[.string s] w fun e w' => e = .returned (.string ⟨(Lib.toUpperA s.data.toList).toArray⟩) ∧ Below w.heap.size w w' := Any.strings_ToUpper_ascii Tryz.lays158 Tryz.Builder_Extra_158 s w hs hascii
end Go.Proofs
end
