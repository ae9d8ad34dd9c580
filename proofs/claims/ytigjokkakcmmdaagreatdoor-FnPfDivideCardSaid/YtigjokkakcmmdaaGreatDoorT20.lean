/-
  A part of the proof (my own): of the texts that the claim's last text rests on: parts K3, K4, K5, K7.
-/
import Derived.Test.YtigjokkakcmmdaaGreatDoorT19
import Derived.Test.YtigjokkakcmmdaaGreatDoorT17
import Derived.Test.YtigjokkakcmmdaaGreatDoorT18
import Derived.Test.YtigjokkakcmmdaaGreatDoorT11
import Derived.Test.YtigjokkakcmmdaaGreatDoorT16
set_option linter.unusedSimpArgs false
set_option linter.unusedVariables false
section
namespace Go.Tb
open Go Go.Proofs
variable {z : Nat × Nat}
set_option maxRecDepth 20000
def ccB (c side : Int) : UInt8 := if c = 1 then (if side = 2 then 81 else 75) else (if side = 2 then 113 else 107)
def canB (l : List UInt8) (c side : Int) : Bool := decide (0 ≤ idxL l (ccB c side))
theorem upk_ok : FnP (Tz z) 101 [.string ⟨#[107]⟩] (.string (byt [75])) := by
  have h := upper_ok (z := z) [107] (by simp) (by simp)
  rw [up_k] at h; exact h
theorem upq_ok : FnP (Tz z) 101 [.string ⟨#[113]⟩] (.string (byt [81])) := by
  have h := upper_ok (z := z) [113] (by simp) (by simp)
  rw [up_q] at h; exact h
set_option maxHeartbeats 4000000 in
theorem can_ok (l : List UInt8) (c side : Int) (hl : l.length ≤ 1000) : FnP (Tz z) 89 [.string (byt l), .int .i8 c, .int .i64 side] (.bool (canB l c side)) := by
  refine ⟨by simp [Pl.str, Pl.int], Pl.bool, start [0, 1, 2, 6, 7, 9, 11] Tryz.func89 rfl (by decide) rfl (by kernel_rfl) (by simp [Tryz.f89]) ?_⟩
  simp only [Tryz.f89]
  repeat' (first | (with_reducible first | refine call_p (upk_ok) ?_ | refine qG_call (upk_ok) ?_ | refine zG_call (upk_ok) ?_ | refine yG_call (upk_ok) ?_ | refine piG_call (upk_ok) ?_ | refine call_p (upq_ok) ?_ | refine qG_call (upq_ok) ?_ | refine zG_call (upq_ok) ?_ | refine yG_call (upq_ok) ?_ | refine piG_call (upq_ok) ?_ | refine call_p (contains_ok l _ hl) ?_ | refine qG_call (contains_ok l _ hl) ?_ | refine zG_call (contains_ok l _ hl) ?_ | refine yG_call (contains_ok l _ hl) ?_ | refine piG_call (contains_ok l _ hl) ?_ | refine seq_k fun K hK => ?_) | (with_reducible refine hK _ _ ?_; clear hK) | ((with_reducible first | refine gd_dec ?_ ?_ | refine gd_ndec ?_ ?_ | refine qC_dec ?_ ?_ | refine qC_ndec ?_ ?_ | refine piC_dec ?_ ?_ | refine piC_ndec ?_ ?_ | refine zC_dec ?_ ?_ | refine zC_ndec ?_ ?_ | refine zD_dec ?_ ?_ | refine yC_dec ?_ ?_ | refine yC_ndec ?_ ?_ | refine if_dec ?_ ?_ | refine if_ndec ?_ ?_) <;> intro hh) | simp -implicitDefEqProofs (disch := first | omega | assumption) only [go_sem, ↓reduceIte, Nat.reduceEqDiff, Int.reduceEq, Nat.reduceAdd, Nat.reduceSub, Nat.reduceMul, Nat.mul_one, Nat.one_mul, List.length_nil, List.length_cons, List.nil_append, List.cons_append, List.length_append, List.set_cons_zero, List.set_cons_succ, Nat.zero_add, Nat.sub_zero, Option.isNone_none, Option.isNone_some, Int.toNat_natCast, Nat.add_sub_cancel_left, Bool.not_true, Bool.not_false, BitVec.reduceOfInt, Int.reduceToNat] | ((with_reducible first | refine gd_bool ?_ ?_ | refine if_bool ?_ ?_ | refine qC_bool ?_ ?_ | refine piC_bool ?_ ?_ | refine zC_bool ?_ ?_ | refine zD_bool ?_ ?_ | refine yC_bool ?_ ?_) <;> intro hh) | clear hK)
  all_goals (refine congrArg Value.bool ?_; simp [canB, ccB, *]; done)
def crA (a : Bool) (l : List UInt8) (b : UInt8) : List UInt8 := if a = true then delL l b else l
theorem crA_len {a : Bool} {l : List UInt8} {b : UInt8} (h : l.length ≤ 1000) : (crA a l b).length ≤ 1000 := by
  unfold crA; split
  · have := delL_len l b; omega
  · exact h
def hitA (p k s1 s2 q : Int) : Bool := decide (p = k) || decide (s1 = q) || decide (s2 = q)
def cr1 (l : List UInt8) (B : Brd) (M : Mv) : List UInt8 := crA (hitA (pieceAt B M.s1) 1 M.s1 M.s2 7) l 75
def cr2 (l : List UInt8) (B : Brd) (M : Mv) : List UInt8 := crA (hitA (pieceAt B M.s1) 1 M.s1 M.s2 0) (cr1 l B M) 81
def cr3 (l : List UInt8) (B : Brd) (M : Mv) : List UInt8 := crA (hitA (pieceAt B M.s1) 7 M.s1 M.s2 63) (cr2 l B M) 107
def cr4 (l : List UInt8) (B : Brd) (M : Mv) : List UInt8 := crA (hitA (pieceAt B M.s1) 7 M.s1 M.s2 56) (cr3 l B M) 113
def crUp (l : List UInt8) (B : Brd) (M : Mv) : List UInt8 := if cr4 l B M = [] then [45] else cr4 l B M
theorem crA_y {p k s1 s2 q : Int} {l : List UInt8} {b : UInt8} (h : p = k ∨ s1 = q ∨ s2 = q) : crA (hitA p k s1 s2 q) l b = delL l b := by
  unfold crA; rw [if_pos (by unfold hitA; rcases h with h | h | h <;> simp [h])]
theorem crA_n {p k s1 s2 q : Int} {l : List UInt8} {b : UInt8} (h : ¬ (p = k ∨ s1 = q ∨ s2 = q)) : crA (hitA p k s1 s2 q) l b = l := by
  unfold crA; rw [if_neg (by unfold hitA; simp; omega)]
theorem cr1_y {l : List UInt8} {B : Brd} {M : Mv} (h : pieceAt B M.s1 = 1 ∨ M.s1 = 7 ∨ M.s2 = 7) : cr1 l B M = delL l 75 := crA_y h
theorem cr1_n {l : List UInt8} {B : Brd} {M : Mv} (h : ¬ (pieceAt B M.s1 = 1 ∨ M.s1 = 7 ∨ M.s2 = 7)) : cr1 l B M = l := crA_n h
theorem cr1_len {l : List UInt8} {B : Brd} {M : Mv} (h : l.length ≤ 1000) : (cr1 l B M).length ≤ 1000 := crA_len h
theorem cr2_y {l : List UInt8} {B : Brd} {M : Mv} (h : pieceAt B M.s1 = 1 ∨ M.s1 = 0 ∨ M.s2 = 0) : cr2 l B M = delL (cr1 l B M) 81 := crA_y h
theorem cr2_n {l : List UInt8} {B : Brd} {M : Mv} (h : ¬ (pieceAt B M.s1 = 1 ∨ M.s1 = 0 ∨ M.s2 = 0)) : cr2 l B M = (cr1 l B M) := crA_n h
theorem cr2_len {l : List UInt8} {B : Brd} {M : Mv} (h : (cr1 l B M).length ≤ 1000) : (cr2 l B M).length ≤ 1000 := crA_len h
theorem cr3_y {l : List UInt8} {B : Brd} {M : Mv} (h : pieceAt B M.s1 = 7 ∨ M.s1 = 63 ∨ M.s2 = 63) : cr3 l B M = delL (cr2 l B M) 107 := crA_y h
theorem cr3_n {l : List UInt8} {B : Brd} {M : Mv} (h : ¬ (pieceAt B M.s1 = 7 ∨ M.s1 = 63 ∨ M.s2 = 63)) : cr3 l B M = (cr2 l B M) := crA_n h
theorem cr3_len {l : List UInt8} {B : Brd} {M : Mv} (h : (cr2 l B M).length ≤ 1000) : (cr3 l B M).length ≤ 1000 := crA_len h
theorem cr4_y {l : List UInt8} {B : Brd} {M : Mv} (h : pieceAt B M.s1 = 7 ∨ M.s1 = 56 ∨ M.s2 = 56) : cr4 l B M = delL (cr3 l B M) 113 := crA_y h
theorem cr4_n {l : List UInt8} {B : Brd} {M : Mv} (h : ¬ (pieceAt B M.s1 = 7 ∨ M.s1 = 56 ∨ M.s2 = 56)) : cr4 l B M = (cr3 l B M) := crA_n h
theorem cr4_len {l : List UInt8} {B : Brd} {M : Mv} (h : (cr3 l B M).length ≤ 1000) : (cr4 l B M).length ≤ 1000 := crA_len h
theorem lit0 : (⟨#[]⟩ : ByteArray) = byt [] := rfl
theorem litK : (⟨#[75]⟩ : ByteArray) = byt [75] := rfl
theorem litQ : (⟨#[81]⟩ : ByteArray) = byt [81] := rfl
theorem litk : (⟨#[107]⟩ : ByteArray) = byt [107] := rfl
theorem litq : (⟨#[113]⟩ : ByteArray) = byt [113] := rfl
theorem litd : (⟨#[45]⟩ : ByteArray) = byt [45] := rfl
theorem beq_nil (l : List UInt8) : (l == []) = decide (l = []) := by cases l <;> rfl
abbrev pmbL (D : Pd) (M : Mv) (B : Brd) (n cap : Nat) (vc : List Value) : List AO := [.cells (psL 102 (.slice (some ⟨103, 0, none⟩) n cap) D) 82, .cells (mvL M) 60, .cells (boardL B) 110, .cells vc 60]
theorem pmb_wl (D : Pd) (M : Mv) (B : Brd) (n cap : Nat) {vc : List Value} (hv : ∀ v ∈ vc, Pl v) : ∀ o ∈ pmbL D M B n cap vc, o.wf (100 + 4) := by
  intro o ho
  simp only [List.mem_cons, List.not_mem_nil, or_false] at ho
  rcases ho with rfl | rfl | rfl | rfl
  · exact psL_wf (by decide) (wf_sl (by decide))
  · exact fun u hu => (mvL_pl M u hu).wf _
  · exact fun u hu => (boardL_pl B u hu).wf _
  · exact fun u hu => (hv u hu).wf _
theorem two_wv (n : Nat) (h : 2 ≤ n) : ∀ u ∈ [Value.pointer (some ⟨100, 0, none⟩), Value.pointer (some ⟨101, 0, none⟩)], WF (100 + n) u := by
  intro u hu
  simp only [List.mem_cons, List.not_mem_nil, or_false] at hu
  rcases hu with rfl | rfl <;> exact wf_pt (by omega)
attribute [local irreducible] byt delL pieceAt cr1 cr2 cr3 cr4 in
set_option maxHeartbeats 8000000 in
theorem upRights_ok (D : Pd) (M : Mv) (B : Brd) (n cap : Nat) (vc : List Value) (hv : ∀ v ∈ vc, Pl v) (l : List UInt8) (hl : l.length ≤ 1000) (hcr : D.cr = byt l) (h1 : 0 ≤ M.s1 ∧ M.s1 ≤ 63) :
    FnR (Tz z) 47 [.pointer (some ⟨100, 0, none⟩), .pointer (some ⟨101, 0, none⟩)] (pmbL D M B n cap vc) (.string (byt (crUp l B M))) := by
  have g1 := cr1_len (B := B) (M := M) hl
  have g2 := cr2_len (B := B) (M := M) g1
  have g3 := cr3_len (B := B) (M := M) g2
  refine ⟨two_wv _ (by simp), pmb_wl D M B n cap hv, Pl.str.wf _, start [0, 1, 4, 5, 6, 35, 53, 71, 89, 93] Tryz.func47 rfl (by decide) rfl (by kernel_rfl) (by simp [Tryz.f47]) ?_⟩
  simp only [Tryz.f47]
  unfold pmbL
  repeat' (first | (with_reducible first | refine seq_i (a := Code.seq (Code.region 3 _ _) _) [(0, .pointer (some ⟨100, 0, none⟩)), (1, .pointer (some ⟨101, 0, none⟩)), (6, .int .i8 (pieceAt B M.s1)), (5, .string (byt (cr1 l B M)))] (pmbL D M B n cap vc) ?_ (fun K hJ => ?_) | refine seq_i (a := Code.seq (Code.region 5 _ _) _) [(0, .pointer (some ⟨100, 0, none⟩)), (1, .pointer (some ⟨101, 0, none⟩)), (6, .int .i8 (pieceAt B M.s1)), (5, .string (byt (cr2 l B M)))] (pmbL D M B n cap vc) ?_ (fun K hJ => ?_) | refine seq_i (a := Code.seq (Code.region 7 _ _) _) [(0, .pointer (some ⟨100, 0, none⟩)), (1, .pointer (some ⟨101, 0, none⟩)), (6, .int .i8 (pieceAt B M.s1)), (5, .string (byt (cr3 l B M)))] (pmbL D M B n cap vc) ?_ (fun K hJ => ?_) | refine seq_i (a := Code.seq (Code.region 9 _ _) _) [(5, .string (byt (cr4 l B M)))] (pmbL D M B n cap vc) ?_ (fun K hJ => ?_)) | (with_reducible refine hJ _ _ ?_; clear hJ) | with_reducible refine draw (by kernel_rfl) (by kernel_rfl) ?_ | ((with_reducible refine call_ri (f := 48) ?_ ?_ ?_ ?_ ?_ ?_ ?_); rotate_left 3; (· first | omega | decide); (· first | rfl | simp; done); (· refine (piece_ok B h1) <;> omega)) | ((with_reducible refine qG_ri (f := 48) ?_ ?_ ?_ ?_ ?_ ?_ ?_); rotate_left 3; (· first | omega | decide); (· first | rfl | simp; done); (· refine (piece_ok B h1) <;> omega)) | ((with_reducible refine zG_ri (f := 48) ?_ ?_ ?_ ?_ ?_ ?_ ?_); rotate_left 3; (· first | omega | decide); (· first | rfl | simp; done); (· refine (piece_ok B h1) <;> omega)) | (with_reducible first | refine call_p (replace_ok _ _ (by omega)) ?_ | refine qG_call (replace_ok _ _ (by omega)) ?_ | refine zG_call (replace_ok _ _ (by omega)) ?_ | refine yG_call (replace_ok _ _ (by omega)) ?_ | refine piG_call (replace_ok _ _ (by omega)) ?_ | refine seq_k fun K hK => ?_) | (with_reducible refine hK _ _ ?_; clear hK) | ((with_reducible first | refine gd_dec ?_ ?_ | refine gd_ndec ?_ ?_ | refine qC_dec ?_ ?_ | refine qC_ndec ?_ ?_ | refine piC_dec ?_ ?_ | refine piC_ndec ?_ ?_ | refine zC_dec ?_ ?_ | refine zC_ndec ?_ ?_ | refine zD_dec ?_ ?_ | refine yC_dec ?_ ?_ | refine yC_ndec ?_ ?_ | refine if_dec ?_ ?_ | refine if_ndec ?_ ?_) <;> intro hh) | simp -implicitDefEqProofs (disch := first | omega | assumption) only [go_sem, ↓reduceIte, Nat.reduceEqDiff, Int.reduceEq, Nat.reduceAdd, Nat.reduceSub, Nat.reduceMul, Nat.mul_one, Nat.one_mul, List.length_nil, List.length_cons, List.nil_append, List.cons_append, List.length_append, List.set_cons_zero, List.set_cons_succ, Nat.zero_add, Nat.sub_zero, Option.isNone_none, Option.isNone_some, Int.toNat_natCast, Nat.add_sub_cancel_left, Bool.not_true, Bool.not_false, BitVec.reduceOfInt, Int.reduceToNat, hcr, lit0, litK, litQ, litk, litq, litd, bs_toList, beq_nil] | ((with_reducible first | refine gd_bool ?_ ?_ | refine if_bool ?_ ?_ | refine qC_bool ?_ ?_ | refine piC_bool ?_ ?_ | refine zC_bool ?_ ?_ | refine zD_bool ?_ ?_ | refine yC_bool ?_ ?_) <;> intro hh) | clear hK)
  all_goals first
    | (refine ⟨?_, trivial⟩
       rw [show crUp l B M = _ from if_pos (by assumption)]; done)
    | (refine ⟨?_, trivial⟩
       rw [show crUp l B M = _ from if_neg (by assumption)]; done)
    | (have e := cr1_y (l := l) (B := B) (M := M) (by omega)
       refine VS.sub2 ?_ rfl
       simp [Fr.sub, Fr.get, e]; done)
    | (have e := cr1_n (l := l) (B := B) (M := M) (by omega)
       refine VS.sub2 ?_ rfl
       simp [Fr.sub, Fr.get, e]; done)
    | (have e := cr2_y (l := l) (B := B) (M := M) (by omega)
       refine VS.sub2 ?_ rfl
       simp [Fr.sub, Fr.get, e]; done)
    | (have e := cr2_n (l := l) (B := B) (M := M) (by omega)
       refine VS.sub2 ?_ rfl
       simp [Fr.sub, Fr.get, e]; done)
    | (have e := cr3_y (l := l) (B := B) (M := M) (by omega)
       refine VS.sub2 ?_ rfl
       simp [Fr.sub, Fr.get, e]; done)
    | (have e := cr3_n (l := l) (B := B) (M := M) (by omega)
       refine VS.sub2 ?_ rfl
       simp [Fr.sub, Fr.get, e]; done)
    | (have e := cr4_y (l := l) (B := B) (M := M) (by omega)
       refine VS.sub2 ?_ rfl
       simp [Fr.sub, Fr.get, e]; done)
    | (have e := cr4_n (l := l) (B := B) (M := M) (by omega)
       refine VS.sub2 ?_ rfl
       simp [Fr.sub, Fr.get, e]; done)
theorem decT {p : Prop} {_ : Decidable p} (h : p) : decide p = true := decide_eq_true h
theorem decF {p : Prop} {_ : Decidable p} (h : ¬ p) : decide p = false := decide_eq_false h
def epW (D : Pd) (M : Mv) : Bool := decide (D.turn = 1) && !decide (sqB M.s1 &&& 71776119061217280#64 = 0#64) && !decide (sqB M.s2 &&& 1095216660480#64 = 0#64)
def epBl (D : Pd) (M : Mv) : Bool := decide (D.turn = 2) && !decide (sqB M.s1 &&& 65280#64 = 0#64) && !decide (sqB M.s2 &&& 4278190080#64 = 0#64)
def epUp (D : Pd) (M : Mv) (B : Brd) : Int := if pTyp (pieceAt B M.s1) = 6 then (if epW D M = true then M.s2 - 8 else if epBl D M = true then M.s2 + 8 else -1) else -1
attribute [local irreducible] pieceAt pTyp sqB in
set_option maxHeartbeats 8000000 in
theorem upEp_ok (D : Pd) (M : Mv) (B : Brd) (n cap : Nat) (vc : List Value) (hv : ∀ v ∈ vc, Pl v) (h1 : 0 ≤ M.s1 ∧ M.s1 ≤ 63) (h2 : 0 ≤ M.s2 ∧ M.s2 ≤ 63) :
    FnR (Tz z) 51 [.pointer (some ⟨100, 0, none⟩), .pointer (some ⟨101, 0, none⟩)] (pmbL D M B n cap vc) (.int .i8 (epUp D M B)) := by
  refine ⟨two_wv _ (by simp), pmb_wl D M B n cap hv, Pl.int.wf _, start [0, 1, 4, 5, 17, 40, 68] Tryz.func51 rfl (by decide) rfl (by kernel_rfl) (by simp [Tryz.f51]) ?_⟩
  simp only [Tryz.f51]
  unfold pmbL
  repeat' (first | with_reducible refine draw (by kernel_rfl) (by kernel_rfl) ?_ | ((with_reducible refine call_ri (f := 48) ?_ ?_ ?_ ?_ ?_ ?_ ?_); rotate_left 3; (· first | omega | decide); (· first | rfl | simp; done); (· refine (piece_ok B h1) <;> omega)) | ((with_reducible refine qG_ri (f := 48) ?_ ?_ ?_ ?_ ?_ ?_ ?_); rotate_left 3; (· first | omega | decide); (· first | rfl | simp; done); (· refine (piece_ok B h1) <;> omega)) | ((with_reducible refine zG_ri (f := 48) ?_ ?_ ?_ ?_ ?_ ?_ ?_); rotate_left 3; (· first | omega | decide); (· first | rfl | simp; done); (· refine (piece_ok B h1) <;> omega)) | (with_reducible first | refine call_p (type_ok) ?_ | refine qG_call (type_ok) ?_ | refine zG_call (type_ok) ?_ | refine yG_call (type_ok) ?_ | refine piG_call (type_ok) ?_ | refine call_p (bbSq_ok h1) ?_ | refine qG_call (bbSq_ok h1) ?_ | refine zG_call (bbSq_ok h1) ?_ | refine yG_call (bbSq_ok h1) ?_ | refine piG_call (bbSq_ok h1) ?_ | refine call_p (bbSq_ok h2) ?_ | refine qG_call (bbSq_ok h2) ?_ | refine zG_call (bbSq_ok h2) ?_ | refine yG_call (bbSq_ok h2) ?_ | refine piG_call (bbSq_ok h2) ?_ | refine seq_k fun K hK => ?_) | (with_reducible refine hK _ _ ?_; clear hK) | ((with_reducible first | refine gd_dec ?_ ?_ | refine gd_ndec ?_ ?_ | refine qC_dec ?_ ?_ | refine qC_ndec ?_ ?_ | refine piC_dec ?_ ?_ | refine piC_ndec ?_ ?_ | refine zC_dec ?_ ?_ | refine zC_ndec ?_ ?_ | refine zD_dec ?_ ?_ | refine yC_dec ?_ ?_ | refine yC_ndec ?_ ?_ | refine if_dec ?_ ?_ | refine if_ndec ?_ ?_) <;> intro hh) | simp -implicitDefEqProofs (disch := first | omega | assumption) only [go_sem, ↓reduceIte, Nat.reduceEqDiff, Int.reduceEq, Nat.reduceAdd, Nat.reduceSub, Nat.reduceMul, Nat.mul_one, Nat.one_mul, List.length_nil, List.length_cons, List.nil_append, List.cons_append, List.length_append, List.set_cons_zero, List.set_cons_succ, Nat.zero_add, Nat.sub_zero, Option.isNone_none, Option.isNone_some, Int.toNat_natCast, Nat.add_sub_cancel_left, Bool.not_true, Bool.not_false, BitVec.reduceOfInt, Int.reduceToNat, decT, decF, pickV_T, pickV_F] | ((with_reducible first | refine gd_bool ?_ ?_ | refine if_bool ?_ ?_ | refine qC_bool ?_ ?_ | refine piC_bool ?_ ?_ | refine zC_bool ?_ ?_ | refine zD_bool ?_ ?_ | refine yC_bool ?_ ?_) <;> intro hh) | clear hK)
  all_goals (refine ⟨?_, by first | rfl | trivial⟩; refine congrArg (Value.int .i8) ?_; simp [epUp, epW, epBl, *]; done)
end Go.Tb
end
section
namespace Go.Tb
open Go Go.Proofs
variable {z : Nat × Nat}
set_option maxRecDepth 20000
def halfUp (D : Pd) (M : Mv) (B : Brd) : Int := if pTyp (pieceAt B M.s1) = 6 ∨ tagOn M 4 = true then 0 else D.half + 1
def mcUp (D : Pd) : Int := if D.turn = 2 then D.mc + 1 else D.mc
def updD (l : List UInt8) (D : Pd) (M : Mv) (B : Brd) : Pd := { cr := byt (crUp l B M), half := halfUp D M B, mc := mcUp D, turn := cOther D.turn, ep := epUp D M B, chk := tagOn M 16 }
theorem plK {c : List Value} {T : TypeId} {σ : Nat → Nat} (h : ∀ v ∈ c, Pl v) : rnO σ (.cells c T) = .cells c T := (plO (n := 0) σ h).1
theorem fit4 {D : Pd} {M : Mv} {B : Brd} {n cap : Nat} {vc : List Value} (hv : ∀ v ∈ vc, Pl v) {G : List AO} : fitL (sig [0, 1, 2, 3] (pmbL D M B n cap vc ++ G).length) (pmbL D M B n cap vc ++ G) [0, 1, 2, 3] (pmbL D M B n cap vc) := by
  refine ⟨?_, ?_, ?_, ?_, trivial⟩
  · show some _ = some _
    simp [rnO, psL, sig]
  · rw [plK (mvL_pl M)]; rfl
  · rw [plK (boardL_pl B)]; rfl
  · rw [plK hv]; rfl
attribute [local irreducible] byt crUp epUp pieceAt updB in
set_option maxHeartbeats 8000000 in
theorem Update_ok (D : Pd) (M : Mv) (B : Brd) (n cap : Nat) (vc : List Value) (hv : ∀ v ∈ vc, Pl v) (l : List UInt8) (hl : l.length ≤ 1000) (hcr : D.cr = byt l) (h1 : 0 ≤ M.s1 ∧ M.s1 ≤ 63) (h2 : 0 ≤ M.s2 ∧ M.s2 ≤ 63) (hq : ¬ M.promo = 0 → (1 ≤ M.promo ∧ M.promo ≤ 6) ∧ 1 ≤ pieceAt B M.s1)
    (hh : 0 ≤ D.half ∧ D.half ≤ 1000000) (hm : 0 ≤ D.mc ∧ D.mc ≤ 1000000) :
    FnM (Tz z) 25 [.pointer (some ⟨100, 0, none⟩), .pointer (some ⟨101, 0, none⟩)] (pmbL D M B n cap vc) (fun _ : Unit => True) (fun _ => .pointer (some ⟨105, 0, none⟩)) (fun _ => pmbL D M B n cap vc ++ [.cells (boardL (updB B M)) 110, .cells (psL 104 nilS (updD l D M B)) 82]) := by
  refine ⟨two_wv _ (by simp), pmb_wl D M B n cap hv, fun _ _ o ho => ?_, start [0, 1, 4, 5, 6, 7, 8, 9, 18, 22, 67] Tryz.func25 rfl (by decide) rfl (by kernel_rfl) (by simp [Tryz.f25]) ?_⟩
  · simp at ho; rcases ho with rfl | rfl <;> rfl
  simp only [Tryz.f25]
  unfold pmbL
  repeat' (first | with_reducible refine seq_i (a := Code.seq (Code.region 2 _ _) _) [(0, .pointer (some ⟨100, 0, none⟩)), (1, .pointer (some ⟨101, 0, none⟩)), (5, .int .i64 (mcUp D))] (pmbL D M B n cap vc) ?_ (fun K hJ => ?_) | with_reducible refine seq_i (a := Code.seq (Code.region 9 _ _) _) [(0, .pointer (some ⟨100, 0, none⟩)), (1, .pointer (some ⟨101, 0, none⟩)), (5, .int .i64 (mcUp D)), (6, .string (byt (crUp l B M))), (8, .int .i64 (halfUp D M B))] (pmbL D M B n cap vc) ?_ (fun K hJ => ?_) | (with_reducible refine hJ _ _ ?_; clear hJ) | with_reducible refine draw (by kernel_rfl) (by kernel_rfl) ?_ | ((with_reducible refine call_ri (f := 48) ?_ ?_ ?_ ?_ ?_ ?_ ?_); rotate_left 3; (· first | omega | decide); (· first | rfl | simp; done); (· refine (piece_ok B h1) <;> omega)) | ((with_reducible refine qG_ri (f := 48) ?_ ?_ ?_ ?_ ?_ ?_ ?_); rotate_left 3; (· first | omega | decide); (· first | rfl | simp; done); (· refine (piece_ok B h1) <;> omega)) | ((with_reducible refine zG_ri (f := 48) ?_ ?_ ?_ ?_ ?_ ?_ ?_); rotate_left 3; (· first | omega | decide); (· first | rfl | simp; done); (· refine (piece_ok B h1) <;> omega)) | ((with_reducible refine call_ri (f := 40) ?_ ?_ ?_ ?_ ?_ ?_ ?_); rotate_left 3; (· first | omega | decide); (· first | rfl | simp; done); (· refine (hasTag_ok M) <;> omega)) | ((with_reducible refine qG_ri (f := 40) ?_ ?_ ?_ ?_ ?_ ?_ ?_); rotate_left 3; (· first | omega | decide); (· first | rfl | simp; done); (· refine (hasTag_ok M) <;> omega)) | ((with_reducible refine zG_ri (f := 40) ?_ ?_ ?_ ?_ ?_ ?_ ?_); rotate_left 3; (· first | omega | decide); (· first | rfl | simp; done); (· refine (hasTag_ok M) <;> omega)) | (with_reducible first | refine call_p (type_ok) ?_ | refine qG_call (type_ok) ?_ | refine zG_call (type_ok) ?_ | refine yG_call (type_ok) ?_ | refine piG_call (type_ok) ?_ | refine call_p (other_ok) ?_ | refine qG_call (other_ok) ?_ | refine zG_call (other_ok) ?_ | refine yG_call (other_ok) ?_ | refine piG_call (other_ok) ?_) | ((with_reducible refine call_rd (upRights_ok D M B n cap vc hv l hl hcr h1) [0, 1, 2, 3] ?_ ?_ ?_ ?_); (· kernel_rfl); (· first | exact fit4 hv (G := []) | exact fit4 hv (G := [.cells (boardL (updB B M)) 110])); (· first | rfl | (simp [sig]; done)); simp only [rl_string, rl_int]) | ((with_reducible refine call_rd (upEp_ok D M B n cap vc hv h1 h2) [0, 1, 2, 3] ?_ ?_ ?_ ?_); (· kernel_rfl); (· first | exact fit4 hv (G := []) | exact fit4 hv (G := [.cells (boardL (updB B M)) 110])); (· first | rfl | (simp [sig]; done)); simp only [rl_string, rl_int]) | ((with_reducible refine call_fr (bcopy_ok B) [2] ?_ ?_ ?_ ?_); (· kernel_rfl); (· exact ⟨by kernel_rfl, trivial⟩); (· kernel_rfl); intro xx hx; simp -implicitDefEqProofs only [fixL_eq, setAll_cons, setAll_nil, setAll_nil2, List.map_cons, List.map_nil, rn_cells, rn_ro, rn_any, rn_obj, boardL_map, mvL_map, psL_map, map_ints, List.set_cons_zero, List.set_cons_succ, List.length_cons, List.length_nil, List.drop_succ_cons, List.drop_zero, List.drop_nil, List.append_nil, List.nil_append, List.cons_append, rl_tuple, rl_int, rl_bool, rl_string, rl_ptr, rl_ptr0, rl_slice, rl_slice0, rl_agg, List.map_toArray, Array.map_empty, List.length_append, Nat.zero_add, Nat.reduceAdd, sig, Nat.reduceLT, Nat.reduceSub, ↓reduceIte, List.getElem?_cons_zero, List.getElem?_cons_succ, List.getElem?_nil, Nat.reduceAdd, Nat.add_zero, Nat.sub_self]) | ((with_reducible refine call_fr (update_ok B M h1 h2 hq) [4, 1] ?_ ?_ ?_ ?_); (· kernel_rfl); (· exact ⟨by kernel_rfl, by kernel_rfl, trivial⟩); (· kernel_rfl); intro xx hx; simp -implicitDefEqProofs only [fixL_eq, setAll_cons, setAll_nil, setAll_nil2, List.map_cons, List.map_nil, rn_cells, rn_ro, rn_any, rn_obj, boardL_map, mvL_map, psL_map, map_ints, List.set_cons_zero, List.set_cons_succ, List.length_cons, List.length_nil, List.drop_succ_cons, List.drop_zero, List.drop_nil, List.append_nil, List.nil_append, List.cons_append, rl_tuple, rl_int, rl_bool, rl_string, rl_ptr, rl_ptr0, rl_slice, rl_slice0, rl_agg, List.map_toArray, Array.map_empty, List.length_append, Nat.zero_add, Nat.reduceAdd, sig, Nat.reduceLT, Nat.reduceSub, ↓reduceIte, List.getElem?_cons_zero, List.getElem?_cons_succ, List.getElem?_nil, Nat.reduceAdd, Nat.add_zero, Nat.sub_self]) | with_reducible refine seq_k fun K hK => ?_ | (with_reducible refine hK _ _ ?_; clear hK) | ((with_reducible first | refine gd_dec ?_ ?_ | refine gd_ndec ?_ ?_ | refine qC_dec ?_ ?_ | refine qC_ndec ?_ ?_ | refine piC_dec ?_ ?_ | refine piC_ndec ?_ ?_ | refine zC_dec ?_ ?_ | refine zC_ndec ?_ ?_ | refine zD_dec ?_ ?_ | refine yC_dec ?_ ?_ | refine yC_ndec ?_ ?_ | refine if_dec ?_ ?_ | refine if_ndec ?_ ?_) <;> intro hh) | simp -implicitDefEqProofs (disch := first | omega | assumption) only [go_sem, ↓reduceIte, Nat.reduceEqDiff, Int.reduceEq, Nat.reduceAdd, Nat.reduceSub, Nat.reduceMul, Nat.mul_one, Nat.one_mul, List.length_nil, List.length_cons, List.nil_append, List.cons_append, List.length_append, List.set_cons_zero, List.set_cons_succ, Nat.zero_add, Nat.sub_zero, Option.isNone_none, Option.isNone_some, Int.toNat_natCast, Nat.add_sub_cancel_left, Bool.not_true, Bool.not_false, BitVec.reduceOfInt, Int.reduceToNat] | ((with_reducible first | refine gd_bool ?_ ?_ | refine if_bool ?_ ?_ | refine qC_bool ?_ ?_ | refine piC_bool ?_ ?_ | refine zC_bool ?_ ?_ | refine zD_bool ?_ ?_ | refine yC_bool ?_ ?_) <;> intro hh) | clear hK)
  all_goals first
    | exact ⟨(), trivial, trivial, rfl⟩
    | (have e : mcUp D = D.mc + 1 := if_pos (by assumption)
       refine VS.sub2 ?_ rfl
       simp [Fr.sub, Fr.get, e]; done)
    | (have e : mcUp D = D.mc := if_neg (by assumption)
       refine VS.sub2 ?_ rfl
       simp [Fr.sub, Fr.get, e]; done)
    | (have e : halfUp D M B = 0 := if_pos (by first | (left; assumption) | (right; unfold tagOn; simp [*]; done))
       refine VS.sub2 ?_ rfl
       simp [Fr.sub, Fr.get, e]; done)
    | (have e : halfUp D M B = D.half + 1 := if_neg (by unfold tagOn; simp [*])
       refine VS.sub2 ?_ rfl
       simp [Fr.sub, Fr.get, e]; done)
end Go.Tb
end
section
namespace Go.Tb
open Go Go.Proofs
variable {z : Nat × Nat}
set_option maxRecDepth 20000
def zMv : Mv := ⟨0, 0, 0, 0⟩
def vsL (l : List Mv) : List Value := l.flatMap mvL
theorem vsL_app (a b : List Mv) : vsL (a ++ b) = vsL a ++ vsL b := by simp [vsL]
theorem vsL_cons (m : Mv) (l : List Mv) : vsL (m :: l) = mvL m ++ vsL l := by simp [vsL]
theorem vsL_pl (l : List Mv) : ∀ v ∈ vsL l, Pl v := by
  intro v hv
  simp only [vsL, List.mem_flatMap] at hv
  obtain ⟨m, _, h⟩ := hv
  exact mvL_pl m v h
theorem vsL_len (l : List Mv) : (vsL l).length = l.length * 11 := by
  induction l with
  | nil => rfl
  | cons m l ih => rw [vsL_cons, List.length_append, mvL_len, ih, List.length_cons]; omega
def vAt (l : List Mv) (i : Nat) : Mv := l.getD i zMv
theorem vAt_get {l : List Mv} {i : Nat} (h : i < l.length) : l[i]? = some (vAt l i) := by simp [vAt, List.getD_eq_getElem?_getD, h]
theorem vAt_mem {l : List Mv} {i : Nat} (h : i < l.length) : vAt l i ∈ l := List.mem_of_getElem? (vAt_get h)
theorem vsL_split {l : List Mv} {i : Nat} (h : i < l.length) : vsL l = vsL (l.take i) ++ (mvL (vAt l i) ++ vsL (l.drop (i + 1))) := by
  conv => lhs; rw [← List.take_append_drop i l]
  rw [vsL_app]
  congr 1
  have e : l.drop i = vAt l i :: l.drop (i + 1) := by
    rw [List.drop_eq_getElem_cons h]
    congr 1
    have := vAt_get h
    rw [List.getElem?_eq_getElem h] at this
    exact Option.some.inj this
  rw [e, vsL_cons]
theorem vsL_subT {l : List Mv} {tl : List Value} {i : Nat} (h : i < l.length) : sub (vsL l ++ tl) (i * 11) 11 = some (mvL (vAt l i)) := by
  have hl : (vsL (l.take i)).length = i * 11 := by rw [vsL_len, List.length_take]; omega
  unfold sub
  rw [if_pos (by rw [List.length_append, vsL_len]; omega), vsL_split h, List.append_assoc, List.drop_append, List.drop_of_length_le (by omega), hl, Nat.sub_self, List.drop_zero, List.nil_append]
  rfl
theorem mvL_al (m : Mv) : (mvL m).all one = true := rfl
theorem vsL_one' (l : List Mv) : (vsL l).all one = true := by
  rw [List.all_eq_true]
  intro v hv
  simp only [vsL, List.mem_flatMap] at hv
  obtain ⟨m, _, h⟩ := hv
  exact List.all_eq_true.1 (mvL_al m) v h
theorem vsL_set {l : List Mv} {k : Nat} {m : Mv} (h : k < l.length) : vsL (l.set k m) = vsL (l.take k) ++ (mvL m ++ vsL (l.drop (k + 1))) := by
  have hk : k < (l.set k m).length := by simpa using h
  rw [vsL_split hk]
  have e1 : (l.set k m).take k = l.take k := by rw [List.take_set_of_le (Nat.le_refl k)]
  have e2 : (l.set k m).drop (k + 1) = l.drop (k + 1) := by rw [List.drop_set_of_lt (by omega)]
  have e3 : vAt (l.set k m) k = m := by simp [vAt, List.getD_eq_getElem?_getD, h]
  rw [e1, e2, e3]
theorem spl_vs {l : List Mv} {k : Nat} {m : Mv} (h : k < l.length) : spl (vsL l) (k * 11) (mvL m) = vsL (l.set k m) := by
  have hl : (vsL (l.take k)).length = k * 11 := by rw [vsL_len, List.length_take]; omega
  rw [vsL_set h]
  conv => lhs; rw [vsL_split h]
  rw [← hl, spl_mid _ _ _ _ (by simp [mvL])]
theorem wr_vs {l : List Mv} {T : TypeId} {L : List AO} {i k : Nat} {m : Mv} (h : k < l.length) : wrC (some (.cells (vsL l) T)) L i 11 (k * 11) (mvL m) = some (L.set i (.cells (vsL (l.set k m)) T)) := by
  rw [wrC_in (s := 11) rfl rfl (by simp [vsL_len]; omega), spl_vs h]
def padV (n : Nat) (l : List Mv) : List Mv := l ++ List.replicate (n - l.length) zMv
theorem padV_len {n : Nat} {l : List Mv} (h : l.length ≤ n) : (padV n l).length = n := by simp [padV]; omega
theorem padV_set {n : Nat} {l : List Mv} {m : Mv} (h : l.length < n) : (padV n l).set l.length m = padV n (l ++ [m]) := by
  unfold padV
  rw [List.set_append_right _ _ (Nat.le_refl _), Nat.sub_self, show n - l.length = (n - (l ++ [m]).length) + 1 by simp; omega, List.replicate_succ, List.set_cons_zero]
  simp
theorem wr_pad {n : Nat} {l : List Mv} {T : TypeId} {L : List AO} {i : Nat} {m : Mv} (h : l.length < n) : wrC (some (.cells (vsL (padV n l)) T)) L i 11 (l.length * 11) (mvL m) = some (L.set i (.cells (vsL (padV n (l ++ [m]))) T)) := by
  rw [wr_vs (by rw [padV_len (by omega)]; exact h), padV_set h]
theorem wr_mv0 {a b : Mv} {T : TypeId} {L : List AO} {i : Nat} : wrC (some (.cells (mvL a) T)) L i 11 0 (mvL b) = some (L.set i (.cells (mvL b) T)) := by
  rw [wrC_in (s := 11) rfl rfl (by simp [mvL_len])]; rfl
theorem wr_pad0 {n : Nat} {T : TypeId} {L : List AO} {i : Nat} {m : Mv} (h : 0 < n) : wrC (some (.cells (vsL (padV n [])) T)) L i 11 0 (mvL m) = some (L.set i (.cells (vsL (padV n [m])) T)) := by
  have := wr_pad (n := n) (l := []) (T := T) (L := L) (i := i) (m := m) h
  simpa using this
theorem rep_vs {n : Nat} : (List.replicate n ([.pointer none, .pointer none, .string ⟨#[]⟩, .string ⟨#[]⟩, .map none, .slice none 0 0, .int .u64 0, .int .u16 0, .int .i8 0, .int .i8 0, .int .i8 0] : List Value)).flatten = vsL (padV n []) := by
  show (List.replicate n (mvL zMv)).flatten = _
  simp [padV, vsL, List.flatMap_replicate]
theorem rep_vs2 {n : Nat} : (List.replicate n (mvL ⟨0, 0, 0, 0⟩)).flatten = vsL (padV n []) := rep_vs
theorem sl133 {b k : Nat} (h : k ≤ 2) : sliceV Tryz.prog 133 (.pointer (some ⟨b, 0, none⟩)) none (some (some (.int .i64 (k : Int)))) = some (.slice (some ⟨b, 0, none⟩) k 2) := by
  have ht : tElem Tryz.prog 133 = some (some 2, 60, true, 11) := by kernel_rfl
  simp only [sliceV, ht, bdV]
  rw [if_pos (by omega), Option.bind_some, Option.map_some, if_neg (by decide), Int.toNat_natCast, Nat.zero_mul, Nat.add_zero, Nat.sub_zero, Nat.sub_zero]
theorem sl126 {b k : Nat} (h : k ≤ 218) : sliceV Tryz.prog 126 (.pointer (some ⟨b, 0, none⟩)) none (some (some (.int .i64 (k : Int)))) = some (.slice (some ⟨b, 0, none⟩) k 218) := by
  have ht : tElem Tryz.prog 126 = some (some 218, 60, true, 11) := by kernel_rfl
  simp only [sliceV, ht, bdV]
  rw [if_pos (by omega), Option.bind_some, Option.map_some, if_neg (by decide), Int.toNat_natCast, Nat.zero_mul, Nat.add_zero, Nat.sub_zero, Nat.sub_zero]
theorem mv_lit (a b c d : Int) : ([.pointer none, .pointer none, .string ⟨#[]⟩, .string ⟨#[]⟩, .map none, .slice none 0 0, .int .u64 0, .int .u16 a, .int .i8 b, .int .i8 c, .int .i8 d] : List Value) = mvL ⟨a, b, c, d⟩ := rfl
theorem VS.cutT {X : Cx} {n0 : Nat} {fr fr' : Fr} {L M : List AO} (h : M.take L.length = L) (hn : n0 ≤ L.length) (hw : allW (100 + L.length) L) (hf : subW (100 + L.length) fr fr') : VS X n0 (fr, M) (fr', L) := by
  have e : M = L ++ M.drop L.length := by conv => lhs; rw [← List.take_append_drop L.length M, h]
  rw [e]; exact VS.cutE hn hw hf
section
variable {X : Cx} {all os : List Oper} {ss : List Bool} {fr : Fr} {L : List AO} {K : Fr → List AO → Prop} {dst : Option Tmp} {op : Op} {want : Bool} {type : TypeId} {pos : String} {after : Array Edge}
def yD (X : Cx) (c : Option Value) (want : Bool) (dst : Option Tmp) (op : Op) (all os : List Oper) (ss : List Bool) (fr : Fr) (L : List AO) (K : Fr → List AO → Prop) : Prop :=
  onG c want (yE X (outE X fr L op) dst all os ss fr L K) (wpPy X all os ss (fr.put dst (.tuple #[])) L K)
theorem py_eg (j : Nat) (h : yD X (gd all fr j) want dst op all os ss fr L K) : wpPy X all ({ dst, op, type, pos, after, guard := some (j, want) } :: os) (true :: ss) fr L K :=
  onG_mono h (fun h => onE_wpO h) fun h => h
theorem yD_tt : yD X (some (.bool true)) true dst op all os ss fr L K = yE X (outE X fr L op) dst all os ss fr L K := by simp [yD, onG]
theorem yD_ft : yD X (some (.bool false)) true dst op all os ss fr L K = wpPy X all os ss (fr.put dst (.tuple #[])) L K := by simp [yD, onG]
theorem yD_bool {c : Bool} (h1 : c = true → yD X (some (.bool true)) want dst op all os ss fr L K) (h2 : c = false → yD X (some (.bool false)) want dst op all os ss fr L K) : yD X (some (.bool c)) want dst op all os ss fr L K := by
  cases c
  · exact h2 rfl
  · exact h1 rfl
theorem yD_dec {p : Prop} {_ : Decidable p} (h1 : p → yD X (some (.bool true)) want dst op all os ss fr L K) (h2 : ¬ p → yD X (some (.bool false)) want dst op all os ss fr L K) : yD X (some (.bool (decide p))) want dst op all os ss fr L K :=
  yD_bool (fun h => h1 (of_decide_eq_true h)) (fun h => h2 (of_decide_eq_false h))
theorem yC_decT {p : Prop} {_ : Decidable p} (h : p) (k : yC X (some (.bool true)) want dst op all os ss fr L K) : yC X (some (.bool (decide p))) want dst op all os ss fr L K := by rwa [decide_eq_true h]
theorem yC_decF {p : Prop} {_ : Decidable p} (h : ¬ p) (k : yC X (some (.bool false)) want dst op all os ss fr L K) : yC X (some (.bool (decide p))) want dst op all os ss fr L K := by rwa [decide_eq_false h]
theorem yC_bT {c : Bool} (h : c = true) (k : yC X (some (.bool true)) want dst op all os ss fr L K) : yC X (some (.bool c)) want dst op all os ss fr L K := by rwa [h]
theorem yC_bF {c : Bool} (h : c = false) (k : yC X (some (.bool false)) want dst op all os ss fr L K) : yC X (some (.bool c)) want dst op all os ss fr L K := by rwa [h]
theorem yD_decT {p : Prop} {_ : Decidable p} (h : p) (k : yD X (some (.bool true)) want dst op all os ss fr L K) : yD X (some (.bool (decide p))) want dst op all os ss fr L K := by rwa [decide_eq_true h]
theorem yD_decF {p : Prop} {_ : Decidable p} (h : ¬ p) (k : yD X (some (.bool false)) want dst op all os ss fr L K) : yD X (some (.bool (decide p))) want dst op all os ss fr L K := by rwa [decide_eq_false h]
theorem yD_bT {c : Bool} (h : c = true) (k : yD X (some (.bool true)) want dst op all os ss fr L K) : yD X (some (.bool c)) want dst op all os ss fr L K := by rwa [h]
theorem yD_bF {c : Bool} (h : c = false) (k : yD X (some (.bool false)) want dst op all os ss fr L K) : yD X (some (.bool c)) want dst op all os ss fr L K := by rwa [h]
theorem yG_callR {f : FuncId} {vs0 vs : List Value} {L0 : List AO} {v : Value} (h : FnR X f vs0 L0 v) (idx : List Nat) (hi : idxOk idx L0.length L.length = true) (hf : fitL (sig idx L.length) L idx L0) (hvs : vs = vs0.map (rl (sig idx L.length)))
    (hk : wpPy X all os ss (fr.put dst (rl (sig idx L.length) v)) L K) : yG X (.c (f, [], []) vs) dst all os ss fr L K := by
  show CallQ X f ([] ++ vs ++ []) L _
  rw [List.nil_append, List.append_nil]
  exact h.useQ idx hi hf hvs hk
end
@[congr] theorem yD_congr {X : Cx} {c c' : Option Value} (want dst op all os ss) {fr fr' : Fr} {L L' : List AO} (K : Fr → List AO → Prop) (h : c = c') (h' : fr = fr') (h2 : L = L') : yD X c want dst op all os ss fr L K = yD X c' want dst op all os ss fr' L' K := by rw [h, h', h2]
attribute [go_sem] yD_tt yD_ft
def anyAtt (B : Brd) (t : Int) (ss : List Int) : Bool := (List.range ss.length).any fun i => attS B t (i8C ss i)
theorem att_ok2 (D : Pd) (B : Brd) (a b : Int) (ha : 0 ≤ a ∧ a ≤ 63) (hb : 0 ≤ b ∧ b ≤ 63) (ht : D.turn = 1 ∨ D.turn = 2) :
    FnR (Tz z) 84 [.pointer (some ⟨100, 0, none⟩), .slice (some ⟨102, 0, none⟩) 2 2] [.cells (psL 101 nilS D) 82, .cells (boardL B) 110, .cells [.int .i8 a, .int .i8 b] 57] (.bool (anyAtt B D.turn [a, b])) :=
  att_ok D B [a, b] (fun k => by rcases k with _ | _ | k <;> simp [i8C] <;> omega) (by simp) ht
def kB (D : Pd) (B : Brd) (t : Int) (can : Bool) (em : BitVec 64) (ss : List Int) : Bool :=
  decide (D.turn = t) && (can && (decide (~~~B.e &&& em = 0#64) && (!anyAtt B D.turn ss && !D.chk)))
def kC (l : List UInt8) (D : Pd) (B : Brd) : Nat → Bool
  | 0 => kB D B 1 (canB l D.turn 1) (sqB 5 ||| sqB 6) [5, 6]
  | 1 => kB D B 1 (canB l D.turn 2) (sqB 1 ||| sqB 2 ||| sqB 3) [2, 3]
  | 2 => kB D B 2 (canB l D.turn 1) (sqB 61 ||| sqB 62) [61, 62]
  | _ => kB D B 2 (canB l D.turn 2) (sqB 57 ||| sqB 58 ||| sqB 59) [58, 59]
def kM0 : Nat → Mv
  | 0 => ⟨bor .u16 0 1, 4, 6, 0⟩
  | 1 => ⟨bor .u16 0 2, 4, 2, 0⟩
  | 2 => ⟨bor .u16 0 1, 60, 62, 0⟩
  | _ => ⟨bor .u16 0 2, 60, 58, 0⟩
def kM (D : Pd) (B : Brd) (k : Nat) : Mv := { kM0 k with tags := tg4 D B (kM0 k) }
def csL (l : List UInt8) (D : Pd) (B : Brd) : Nat → List Mv
  | 0 => []
  | k + 1 => csL l D B k ++ if kC l D B k = true then [kM D B k] else []
theorem csL_y {l : List UInt8} {D : Pd} {B : Brd} {k : Nat} (h : kC l D B k = true) : csL l D B (k + 1) = csL l D B k ++ [kM D B k] := by simp only [csL]; rw [if_pos h]
theorem csL_n {l : List UInt8} {D : Pd} {B : Brd} {k : Nat} (h : kC l D B k = false) : csL l D B (k + 1) = csL l D B k := by simp only [csL]; rw [if_neg (by simp [h]), List.append_nil]
theorem csL_len (l : List UInt8) (D : Pd) (B : Brd) : ∀ k, (csL l D B k).length ≤ k
  | 0 => Nat.le_refl 0
  | k + 1 => by
    have := csL_len l D B k
    simp only [csL]; split <;> simp <;> omega
theorem kB_t {D : Pd} {B : Brd} {t : Int} {can : Bool} {em : BitVec 64} {ss : List Int} (h : kB D B t can em ss = true) : D.turn = t := by
  unfold kB at h; rw [Bool.and_eq_true] at h; exact of_decide_eq_true h.1
theorem csL_b2 {l : List UInt8} {D : Pd} {B : Brd} : D.turn = 1 ∨ (csL l D B 2).length = 0 := by
  by_cases h : D.turn = 1
  · exact .inl h
  · right
    rw [csL_n (k := 1), csL_n (k := 0)]
    · rfl
    · exact Bool.eq_false_iff.2 fun e => h (kB_t e)
    · exact Bool.eq_false_iff.2 fun e => h (kB_t e)
theorem csL_b3 {l : List UInt8} {D : Pd} {B : Brd} : D.turn = 1 ∨ (csL l D B 3).length ≤ 1 := by
  rcases csL_b2 (l := l) (D := D) (B := B) with h | h
  · exact .inl h
  · right
    rw [show csL l D B 3 = csL l D B 2 ++ if kC l D B 2 = true then [kM D B 2] else [] from rfl]
    split <;> simp only [List.length_append, List.length_cons, List.length_nil] <;> omega
theorem csL_b4 {l : List UInt8} {D : Pd} {B : Brd} : (csL l D B 4).length ≤ 2 := by
  by_cases h : D.turn = 1
  · rw [csL_n (k := 3), csL_n (k := 2)]
    · exact csL_len l D B 2
    · exact Bool.eq_false_iff.2 fun e => by have := kB_t e; omega
    · exact Bool.eq_false_iff.2 fun e => by have := kB_t e; omega
  · have h3 := csL_b3 (l := l) (D := D) (B := B)
    rw [show csL l D B 4 = csL l D B 3 ++ if kC l D B 3 = true then [kM D B 3] else [] from rfl]
    split <;> simp only [List.length_append, List.length_cons, List.length_nil] <;> omega
section
variable {D : Pd} {B : Brd} {t : Int} {can : Bool} {em : BitVec 64} {ss : List Int}
theorem kB_y (h1 : D.turn = t) (h2 : can = true) (h3 : ~~~B.e &&& em = 0#64) (h4 : (!anyAtt B D.turn ss) = true) (h5 : (!D.chk) = true) : kB D B t can em ss = true := by
  unfold kB; rw [decide_eq_true h1, h2, decide_eq_true h3, h4, h5]; rfl
theorem kB_n1 (h : ¬ D.turn = t) : kB D B t can em ss = false := by unfold kB; rw [decide_eq_false h]; rfl
theorem kB_n2 (h : can = false) : kB D B t can em ss = false := by unfold kB; rw [h]; simp
theorem kB_n3 (h : ¬ ~~~B.e &&& em = 0#64) : kB D B t can em ss = false := by unfold kB; rw [decide_eq_false h]; simp
theorem kB_n4 (h : (!anyAtt B D.turn ss) = false) : kB D B t can em ss = false := by unfold kB; rw [h]; simp
theorem kB_n5 (h : (!D.chk) = false) : kB D B t can em ss = false := by unfold kB; rw [h]; simp
end
theorem kM0_bd (k : Nat) : (0 ≤ (kM0 k).s1 ∧ (kM0 k).s1 ≤ 63) ∧ (0 ≤ (kM0 k).s2 ∧ (kM0 k).s2 ≤ 63) ∧ (kM0 k).promo = 0 := by
  rcases k with _ | _ | _ | k <;> simp [kM0]
theorem kTags_ok (k : Nat) (D : Pd) (B : Brd) (ht : D.turn = 1 ∨ D.turn = 2) (hw : -1 ≤ B.wks ∧ B.wks ≤ 63) (hb : -1 ≤ B.bks ∧ B.bks ≤ 63) :
    FnM (Tz z) 88 [.pointer (some ⟨100, 0, none⟩), .pointer (some ⟨101, 0, none⟩)] [.cells (mvL (kM0 k)) 60, .cells (psL 102 nilS D) 82, .cells (boardL B) 110] (fun _ : Unit => True) (fun _ => .tuple #[]) (fun _ => [.cells (mvL (kM D B k)) 60, .cells (psL 102 nilS D) 82, .cells (boardL B) 110]) :=
  addTags_ok (kM0 k) D B (kM0_bd k).1 (kM0_bd k).2.1 (fun h => absurd (kM0_bd k).2.2 h) ht hw hb
end Go.Tb
end
section
namespace Go.Tb
open Go Go.Proofs
variable {z : Nat × Nat}
set_option maxRecDepth 20000
def fK (f : Nat → List Mv) : Nat → List Mv
  | 0 => []
  | k + 1 => fK f k ++ f k
theorem fK_0 (f : Nat → List Mv) : fK f 0 = [] := rfl
theorem fK_S (f : Nat → List Mv) (k : Nat) : fK f (k + 1) = fK f k ++ f k := rfl
theorem fK_le (f : Nat → List Mv) {k n : Nat} (h : k ≤ n) : (fK f k).length ≤ (fK f n).length := by
  induction n with
  | zero => rw [show k = 0 by omega]; exact Nat.le_refl _
  | succ n ih =>
    rcases Nat.lt_or_ge k (n + 1) with h1 | h1
    · have := ih (by omega)
      rw [fK_S, List.length_append]; omega
    · rw [show k = n + 1 by omega]; exact Nat.le_refl _
theorem fK_nil {f : Nat → List Mv} : ∀ {n : Nat}, (∀ k, k < n → f k = []) → fK f n = []
  | 0, _ => rfl
  | n + 1, h => by rw [fK_S, fK_nil fun k hk => h k (by omega), h n (by omega)]; rfl
def keepM (m : Mv) : List Mv := if 0 < band .u16 32 m.tags then [] else [m]
theorem keepM_y {m : Mv} (h : ¬ 0 < band .u16 32 m.tags) : keepM m = [m] := if_neg h
theorem keepM_n {m : Mv} (h : 0 < band .u16 32 m.tags) : keepM m = [] := if_pos h
def qrT (D : Pd) (B : Brd) (s1 s2 : Nat) : Nat → Int
  | 0 => 0
  | q + 1 => tg4 D B ⟨qrT D B s1 s2 q, s1, s2, (q : Int) + 2⟩
def qrM (D : Pd) (B : Brd) (s1 s2 q : Nat) : Mv := ⟨qrT D B s1 s2 (q + 1), s1, s2, (q : Int) + 2⟩
def nmM (D : Pd) (B : Brd) (s1 s2 : Nat) : Mv := ⟨tg4 D B ⟨0, s1, s2, 0⟩, s1, s2, 0⟩
def allowB (D : Pd) (B : Brd) : BitVec 64 := if D.turn = 2 then ~~~B.b else ~~~B.w
def toB (D : Pd) (B : Brd) (p : Int) (s1 : Nat) : BitVec 64 := pmB D B (pTyp p) s1 &&& allowB D B
def promS (p : Int) (s2 : Nat) : Bool := decide ((p = 6 ∧ (s2 : Int) / 8 = 7) ∨ (p = 12 ∧ (s2 : Int) / 8 = 0))
def qrL (D : Pd) (B : Brd) (s1 s2 : Nat) : Nat → List Mv := fK fun q => keepM (qrM D B s1 s2 q)
def oneL (D : Pd) (B : Brd) (p : Int) (s1 s2 : Nat) : List Mv :=
  if toB D B p s1 &&& sqB s2 = 0#64 then [] else if promS p s2 = true then qrL D B s1 s2 4 else keepM (nmM D B s1 s2)
def s2L (D : Pd) (B : Brd) (p : Int) (s1 : Nat) : Nat → List Mv := fK (oneL D B p s1)
def fromL (D : Pd) (B : Brd) (p : Int) (s1 : Nat) : List Mv := if getP B p &&& sqB s1 = 0#64 then [] else s2L D B p s1 64
def s1L (D : Pd) (B : Brd) (p : Int) : Nat → List Mv := fK (fromL D B p)
def pieL (D : Pd) (B : Brd) (k : Nat) : List Mv := if D.turn = pCol ((k : Int) + 1) then s1L D B ((k : Int) + 1) 64 else []
def stdK (D : Pd) (B : Brd) : Nat → List Mv := fK (pieL D B)
def stdL (D : Pd) (B : Brd) : List Mv := stdK D B 12
def aK2 (D : Pd) (B : Brd) (k s1 : Nat) : List Mv := stdK D B k ++ s1L D B ((k : Int) + 1) s1
def aK3 (D : Pd) (B : Brd) (k s1 s2 : Nat) : List Mv := aK2 D B k s1 ++ s2L D B ((k : Int) + 1) s1 s2
def aK4 (D : Pd) (B : Brd) (k s1 s2 q : Nat) : List Mv := aK3 D B k s1 s2 ++ qrL D B s1 s2 q
section
variable {D : Pd} {B : Brd} {k s1 s2 q : Nat}
theorem stdK_0 : stdK D B 0 = [] := rfl
theorem aK2_0 : aK2 D B k 0 = stdK D B k := by simp [aK2, s1L, fK_0]
theorem aK3_0 : aK3 D B k s1 0 = aK2 D B k s1 := by simp [aK3, s2L, fK_0]
theorem aK4_0 : aK4 D B k s1 s2 0 = aK3 D B k s1 s2 := by simp [aK4, qrL, fK_0]
theorem stdK_n (h : ¬ D.turn = pCol ((k : Int) + 1)) : stdK D B (k + 1) = stdK D B k := by
  unfold stdK; rw [fK_S, pieL, if_neg h, List.append_nil]
theorem stdK_e (h : D.turn = pCol ((k : Int) + 1)) : stdK D B (k + 1) = aK2 D B k 64 := by
  unfold stdK; rw [fK_S, pieL, if_pos h]; rfl
theorem stdK_z (h : getP B ((k : Int) + 1) = 0#64) : stdK D B (k + 1) = stdK D B k := by
  by_cases ht : D.turn = pCol ((k : Int) + 1)
  · rw [stdK_e ht, aK2, s1L, fK_nil, List.append_nil]
    intro j _; rw [fromL, if_pos (by rw [h]; simp)]
  · exact stdK_n ht
theorem aK2_n (h : getP B ((k : Int) + 1) &&& sqB s1 = 0#64) : aK2 D B k (s1 + 1) = aK2 D B k s1 := by
  unfold aK2 s1L; rw [fK_S, fromL, if_pos h, List.append_nil]
theorem aK2_e (h : ¬ getP B ((k : Int) + 1) &&& sqB s1 = 0#64) : aK2 D B k (s1 + 1) = aK3 D B k s1 64 := by
  unfold aK3 aK2 s1L; rw [fK_S, fromL, if_neg h, List.append_assoc]
theorem aK2_z (h0 : ¬ getP B ((k : Int) + 1) &&& sqB s1 = 0#64) (h : toB D B ((k : Int) + 1) s1 = 0#64) : aK2 D B k (s1 + 1) = aK2 D B k s1 := by
  rw [aK2_e h0, aK3, s2L, fK_nil, List.append_nil]
  intro j _; rw [oneL, if_pos (by rw [h]; simp)]
theorem aK3_n (h : toB D B ((k : Int) + 1) s1 &&& sqB s2 = 0#64) : aK3 D B k s1 (s2 + 1) = aK3 D B k s1 s2 := by
  unfold aK3 s2L; rw [fK_S, oneL, if_pos h, List.append_nil]
theorem aK3_p (h : ¬ toB D B ((k : Int) + 1) s1 &&& sqB s2 = 0#64) (hp : promS ((k : Int) + 1) s2 = true) : aK3 D B k s1 (s2 + 1) = aK4 D B k s1 s2 4 := by
  unfold aK4 aK3 s2L; rw [fK_S, oneL, if_neg h, if_pos hp, List.append_assoc]
theorem aK3_s (h : ¬ toB D B ((k : Int) + 1) s1 &&& sqB s2 = 0#64) (hp : promS ((k : Int) + 1) s2 = false) : aK3 D B k s1 (s2 + 1) = aK3 D B k s1 s2 ++ keepM (nmM D B s1 s2) := by
  unfold aK3 s2L; rw [fK_S, oneL, if_neg h, if_neg (by simp [hp]), List.append_assoc]
theorem aK4_S : aK4 D B k s1 s2 (q + 1) = aK4 D B k s1 s2 q ++ keepM (qrM D B s1 s2 q) := by
  unfold aK4 qrL; rw [fK_S, List.append_assoc]
theorem aK1_le (h : k ≤ 12) : (stdK D B k).length ≤ (stdL D B).length := fK_le _ h
theorem aK2_le (h : k < 12) (ht : D.turn = pCol ((k : Int) + 1)) (h1 : s1 ≤ 64) : (aK2 D B k s1).length ≤ (stdL D B).length := by
  have h2 := aK1_le (D := D) (B := B) (k := k + 1) h
  rw [stdK_e ht] at h2
  refine Nat.le_trans ?_ h2
  have := fK_le (fromL D B ((k : Int) + 1)) h1
  simp only [aK2, s1L, List.length_append]; omega
theorem aK3_le (h : k < 12) (ht : D.turn = pCol ((k : Int) + 1)) (h1 : s1 < 64) (hg : ¬ getP B ((k : Int) + 1) &&& sqB s1 = 0#64) (h2 : s2 ≤ 64) : (aK3 D B k s1 s2).length ≤ (stdL D B).length := by
  have h3 := aK2_le (B := B) h ht (s1 := s1 + 1) h1
  rw [aK2_e hg] at h3
  refine Nat.le_trans ?_ h3
  have := fK_le (oneL D B ((k : Int) + 1) s1) h2
  simp only [aK3, s2L, List.length_append]; omega
theorem aK4_le (h : k < 12) (ht : D.turn = pCol ((k : Int) + 1)) (h1 : s1 < 64) (hg : ¬ getP B ((k : Int) + 1) &&& sqB s1 = 0#64) (h2 : s2 < 64) (ho : ¬ toB D B ((k : Int) + 1) s1 &&& sqB s2 = 0#64) (hp : promS ((k : Int) + 1) s2 = true) (hq : q ≤ 4) : (aK4 D B k s1 s2 q).length ≤ (stdL D B).length := by
  have h3 := aK3_le h ht h1 hg (s2 := s2 + 1) h2
  rw [aK3_p ho hp] at h3
  refine Nat.le_trans ?_ h3
  have := fK_le (fun q => keepM (qrM D B s1 s2 q)) hq
  simp only [aK4, qrL, List.length_append]; omega
theorem promS_y {p : Int} (h : (p = 6 ∧ (s2 : Int) / 8 = 7) ∨ (p = 12 ∧ (s2 : Int) / 8 = 0)) : promS p s2 = true := decide_eq_true h
theorem promS_n {p : Int} (h : ¬ ((p = 6 ∧ (s2 : Int) / 8 = 7) ∨ (p = 12 ∧ (s2 : Int) / 8 = 0))) : promS p s2 = false := decide_eq_false h
theorem pieceAt_pos (hk : k < 12) (hs : s1 < 64) (h : ¬ getP B ((k : Int) + 1) &&& sqB s1 = 0#64) : 1 ≤ pieceAt B (s1 : Int) := by
  have ho : occB (B.f k) s1 = true := by
    have := and_sq (x := getP B ((k : Int) + 1)) (s := (s1 : Int)) (by omega)
    rw [decide_eq_false h, getP_k] at this
    simpa using this.symm
  by_cases hn : ∀ i, i < 12 → occB (B.f i) s1 = false
  · rw [hn k hk] at ho; cases ho
  · have : ∃ i, i < 12 ∧ occB (B.f i) s1 = true := Classical.byContradiction fun h0 => hn fun i hi => by
      cases hc : occB (B.f i) (s1 : Int)
      · rfl
      · exact absurd ⟨i, hi, hc⟩ h0
    obtain ⟨i, hi, hc⟩ := this
    unfold pieceAt
    cases hf : (List.range 12).find? (fun k => occB (B.f k) (s1 : Int)) with
    | none => rw [List.find?_eq_none] at hf; exact absurd hc (hf i (List.mem_range.2 hi))
    | some j => simp; omega
end
end Go.Tb
end
