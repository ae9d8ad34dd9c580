/-
  A part of the proof (my own): of the texts that the claim's last text rests on: parts B1, D.
-/
import Derived.Test.YtigjokkakcmmdaaGreatDoorT09
set_option linter.unusedSimpArgs false
set_option linter.unusedVariables false
section
namespace Go.Tb
open Go Go.Proofs
variable {z : Nat × Nat}
def pTyp (p : Int) : Int := if 1 ≤ p ∧ p ≤ 12 then (p - 1) % 6 + 1 else 0
def pCol (p : Int) : Int := if 1 ≤ p ∧ p ≤ 6 then 1 else if 7 ≤ p ∧ p ≤ 12 then 2 else 0
def cOther (c : Int) : Int := if c = 1 then 2 else if c = 2 then 1 else 0
set_option maxRecDepth 20000
theorem type_ok {p : Int} : FnP (Tz z) 49 [.int .i8 p] (.int .i8 (pTyp p)) := by
  refine ⟨by simp [Pl.int], Pl.int, start [0, 2, 3, 4, 7, 10, 13, 16, 19] Tryz.func49 rfl (by decide) rfl (by kernel_rfl) (by simp [Tryz.f49]) ?_⟩
  simp only [Tryz.f49]
  repeat' (first | with_reducible refine seq_k fun K hK => ?_ | (with_reducible refine hK _ _ ?_; clear hK) | ((with_reducible first | refine gd_dec ?_ ?_ | refine gd_ndec ?_ ?_ | refine qC_dec ?_ ?_ | refine qC_ndec ?_ ?_ | refine piC_dec ?_ ?_ | refine piC_ndec ?_ ?_ | refine zC_dec ?_ ?_ | refine zC_ndec ?_ ?_ | refine zD_dec ?_ ?_ | refine yC_dec ?_ ?_ | refine yC_ndec ?_ ?_ | refine if_dec ?_ ?_ | refine if_ndec ?_ ?_) <;> intro hh) | simp -implicitDefEqProofs (disch := first | omega | assumption) only [go_sem, ↓reduceIte, Nat.reduceEqDiff, Int.reduceEq, Nat.reduceAdd, Nat.reduceSub, Nat.reduceMul, Nat.mul_one, Nat.one_mul, List.length_nil, List.length_cons, List.nil_append, List.cons_append, List.length_append, List.set_cons_zero, List.set_cons_succ, Nat.zero_add, Nat.sub_zero, Option.isNone_none, Option.isNone_some, Int.toNat_natCast, Nat.add_sub_cancel_left, Bool.not_true, Bool.not_false, BitVec.reduceOfInt, Int.reduceToNat] | ((with_reducible first | refine gd_bool ?_ ?_ | refine if_bool ?_ ?_ | refine qC_bool ?_ ?_ | refine piC_bool ?_ ?_ | refine zC_bool ?_ ?_ | refine zD_bool ?_ ?_ | refine yC_bool ?_ ?_) <;> intro hh) | clear hK)
  all_goals (congr 1; unfold pTyp; split <;> omega)
theorem color_ok {p : Int} : FnP (Tz z) 76 [.int .i8 p] (.int .i8 (pCol p)) := by
  refine ⟨by simp [Pl.int], Pl.int, start [0, 2, 3, 4, 11] Tryz.func76 rfl (by decide) rfl (by kernel_rfl) (by simp [Tryz.f76]) ?_⟩
  simp only [Tryz.f76]
  repeat' (first | with_reducible refine seq_k fun K hK => ?_ | (with_reducible refine hK _ _ ?_; clear hK) | ((with_reducible first | refine gd_dec ?_ ?_ | refine gd_ndec ?_ ?_ | refine qC_dec ?_ ?_ | refine qC_ndec ?_ ?_ | refine piC_dec ?_ ?_ | refine piC_ndec ?_ ?_ | refine zC_dec ?_ ?_ | refine zC_ndec ?_ ?_ | refine zD_dec ?_ ?_ | refine yC_dec ?_ ?_ | refine yC_ndec ?_ ?_ | refine if_dec ?_ ?_ | refine if_ndec ?_ ?_) <;> intro hh) | simp -implicitDefEqProofs (disch := first | omega | assumption) only [go_sem, ↓reduceIte, Nat.reduceEqDiff, Int.reduceEq, Nat.reduceAdd, Nat.reduceSub, Nat.reduceMul, Nat.mul_one, Nat.one_mul, List.length_nil, List.length_cons, List.nil_append, List.cons_append, List.length_append, List.set_cons_zero, List.set_cons_succ, Nat.zero_add, Nat.sub_zero, Option.isNone_none, Option.isNone_some, Int.toNat_natCast, Nat.add_sub_cancel_left, Bool.not_true, Bool.not_false, BitVec.reduceOfInt, Int.reduceToNat] | ((with_reducible first | refine gd_bool ?_ ?_ | refine if_bool ?_ ?_ | refine qC_bool ?_ ?_ | refine piC_bool ?_ ?_ | refine zC_bool ?_ ?_ | refine zD_bool ?_ ?_ | refine yC_bool ?_ ?_) <;> intro hh) | clear hK)
  all_goals (congr 1; unfold pCol; repeat' split) <;> omega
theorem other_ok {c : Int} : FnP (Tz z) 46 [.int .i8 c] (.int .i8 (cOther c)) := by
  refine ⟨by simp [Pl.int], Pl.int, start [0, 2, 3, 4, 6] Tryz.func46 rfl (by decide) rfl (by kernel_rfl) (by simp [Tryz.f46]) ?_⟩
  simp only [Tryz.f46]
  repeat' (first | with_reducible refine seq_k fun K hK => ?_ | (with_reducible refine hK _ _ ?_; clear hK) | ((with_reducible first | refine gd_dec ?_ ?_ | refine gd_ndec ?_ ?_ | refine qC_dec ?_ ?_ | refine qC_ndec ?_ ?_ | refine piC_dec ?_ ?_ | refine piC_ndec ?_ ?_ | refine zC_dec ?_ ?_ | refine zC_ndec ?_ ?_ | refine zD_dec ?_ ?_ | refine yC_dec ?_ ?_ | refine yC_ndec ?_ ?_ | refine if_dec ?_ ?_ | refine if_ndec ?_ ?_) <;> intro hh) | simp -implicitDefEqProofs (disch := first | omega | assumption) only [go_sem, ↓reduceIte, Nat.reduceEqDiff, Int.reduceEq, Nat.reduceAdd, Nat.reduceSub, Nat.reduceMul, Nat.mul_one, Nat.one_mul, List.length_nil, List.length_cons, List.nil_append, List.cons_append, List.length_append, List.set_cons_zero, List.set_cons_succ, Nat.zero_add, Nat.sub_zero, Option.isNone_none, Option.isNone_some, Int.toNat_natCast, Nat.add_sub_cancel_left, Bool.not_true, Bool.not_false, BitVec.reduceOfInt, Int.reduceToNat] | ((with_reducible first | refine gd_bool ?_ ?_ | refine if_bool ?_ ?_ | refine qC_bool ?_ ?_ | refine piC_bool ?_ ?_ | refine zC_bool ?_ ?_ | refine zD_bool ?_ ?_ | refine yC_bool ?_ ?_) <;> intro hh) | clear hK)
  all_goals (congr 1; unfold cOther; repeat' split) <;> omega
theorem sqRank_ok {s : Int} (h : 0 ≤ s ∧ s ≤ 63) : FnP (Tz z) 87 [.int .i8 s] (.int .i8 (s / 8)) := by
  refine ⟨by simp [Pl.int], Pl.int, start [0, 2] Tryz.func87 rfl (by decide) rfl (by kernel_rfl) (by simp [Tryz.f87]) ?_⟩
  simp only [Tryz.f87]
  repeat' (first | with_reducible refine seq_k fun K hK => ?_ | (with_reducible refine hK _ _ ?_; clear hK) | ((with_reducible first | refine gd_dec ?_ ?_ | refine gd_ndec ?_ ?_ | refine qC_dec ?_ ?_ | refine qC_ndec ?_ ?_ | refine piC_dec ?_ ?_ | refine piC_ndec ?_ ?_ | refine zC_dec ?_ ?_ | refine zC_ndec ?_ ?_ | refine zD_dec ?_ ?_ | refine yC_dec ?_ ?_ | refine yC_ndec ?_ ?_ | refine if_dec ?_ ?_ | refine if_ndec ?_ ?_) <;> intro hh) | simp -implicitDefEqProofs (disch := first | omega | assumption) only [go_sem, ↓reduceIte, Nat.reduceEqDiff, Int.reduceEq, Nat.reduceAdd, Nat.reduceSub, Nat.reduceMul, Nat.mul_one, Nat.one_mul, List.length_nil, List.length_cons, List.nil_append, List.cons_append, List.length_append, List.set_cons_zero, List.set_cons_succ, Nat.zero_add, Nat.sub_zero, Option.isNone_none, Option.isNone_some, Int.toNat_natCast, Nat.add_sub_cancel_left, Bool.not_true, Bool.not_false, BitVec.reduceOfInt, Int.reduceToNat] | ((with_reducible first | refine gd_bool ?_ ?_ | refine if_bool ?_ ?_ | refine qC_bool ?_ ?_ | refine piC_bool ?_ ?_ | refine zC_bool ?_ ?_ | refine zD_bool ?_ ?_ | refine yC_bool ?_ ?_) <;> intro hh) | clear hK)
theorem sqFile_ok {s : Int} (h : 0 ≤ s ∧ s ≤ 63) : FnP (Tz z) 104 [.int .i8 s] (.int .i8 (s % 8)) := by
  refine ⟨by simp [Pl.int], Pl.int, start [0, 2] Tryz.func104 rfl (by decide) rfl (by kernel_rfl) (by simp [Tryz.f104]) ?_⟩
  simp only [Tryz.f104]
  repeat' (first | with_reducible refine seq_k fun K hK => ?_ | (with_reducible refine hK _ _ ?_; clear hK) | ((with_reducible first | refine gd_dec ?_ ?_ | refine gd_ndec ?_ ?_ | refine qC_dec ?_ ?_ | refine qC_ndec ?_ ?_ | refine piC_dec ?_ ?_ | refine piC_ndec ?_ ?_ | refine zC_dec ?_ ?_ | refine zC_ndec ?_ ?_ | refine zD_dec ?_ ?_ | refine yC_dec ?_ ?_ | refine yC_ndec ?_ ?_ | refine if_dec ?_ ?_ | refine if_ndec ?_ ?_) <;> intro hh) | simp -implicitDefEqProofs (disch := first | omega | assumption) only [go_sem, ↓reduceIte, Nat.reduceEqDiff, Int.reduceEq, Nat.reduceAdd, Nat.reduceSub, Nat.reduceMul, Nat.mul_one, Nat.one_mul, List.length_nil, List.length_cons, List.nil_append, List.cons_append, List.length_append, List.set_cons_zero, List.set_cons_succ, Nat.zero_add, Nat.sub_zero, Option.isNone_none, Option.isNone_some, Int.toNat_natCast, Nat.add_sub_cancel_left, Bool.not_true, Bool.not_false, BitVec.reduceOfInt, Int.reduceToNat] | ((with_reducible first | refine gd_bool ?_ ?_ | refine if_bool ?_ ?_ | refine qC_bool ?_ ?_ | refine piC_bool ?_ ?_ | refine zC_bool ?_ ?_ | refine zD_bool ?_ ?_ | refine yC_bool ?_ ?_) <;> intro hh) | clear hK)
theorem bbSq_ok {s : Int} (h : 0 ≤ s ∧ s ≤ 63) : FnP (Tz z) 73 [.int .i8 s] (bv (sqB s)) := by
  refine ⟨by simp [Pl.int], Pl.int, start [0, 2, 8] Tryz.func73 rfl (by decide) rfl (by kernel_rfl) (by simp [Tryz.f73]) ?_⟩
  simp only [Tryz.f73]
  repeat' (first | with_reducible refine seq_k fun K hK => ?_ | (with_reducible refine hK _ _ ?_; clear hK) | ((with_reducible first | refine gd_dec ?_ ?_ | refine gd_ndec ?_ ?_ | refine qC_dec ?_ ?_ | refine qC_ndec ?_ ?_ | refine piC_dec ?_ ?_ | refine piC_ndec ?_ ?_ | refine zC_dec ?_ ?_ | refine zC_ndec ?_ ?_ | refine zD_dec ?_ ?_ | refine yC_dec ?_ ?_ | refine yC_ndec ?_ ?_ | refine if_dec ?_ ?_ | refine if_ndec ?_ ?_) <;> intro hh) | simp -implicitDefEqProofs (disch := first | omega | assumption) only [go_sem, ↓reduceIte, Nat.reduceEqDiff, Int.reduceEq, Nat.reduceAdd, Nat.reduceSub, Nat.reduceMul, Nat.mul_one, Nat.one_mul, List.length_nil, List.length_cons, List.nil_append, List.cons_append, List.length_append, List.set_cons_zero, List.set_cons_succ, Nat.zero_add, Nat.sub_zero, Option.isNone_none, Option.isNone_some, Int.toNat_natCast, Nat.add_sub_cancel_left, Bool.not_true, Bool.not_false, BitVec.reduceOfInt, Int.reduceToNat] | ((with_reducible first | refine gd_bool ?_ ?_ | refine if_bool ?_ ?_ | refine qC_bool ?_ ?_ | refine piC_bool ?_ ?_ | refine zC_bool ?_ ?_ | refine zD_bool ?_ ?_ | refine yC_bool ?_ ?_) <;> intro hh) | clear hK)
  rfl
theorem and63_all : ((List.range 65).all fun k => band .u64 (k : Int) 63 == (k : Int) % 64) = true := by kernel_rfl
theorem and63 {k : Int} (h : 0 ≤ k ∧ k ≤ 64) : band .u64 k 63 = k % 64 := by
  have := List.all_eq_true.1 and63_all k.toNat (by simp; omega)
  rw [Int.toNat_of_nonneg h.1] at this
  simpa using this
def rotB (x : BitVec 64) (k : Int) : BitVec 64 := x <<< (k % 64).toNat ||| x >>> (64 - k % 64).toNat
theorem rot_ok {x : BitVec 64} {k : Int} (h : 0 ≤ k ∧ k ≤ 64) : FnP (Tz z) 92 [bv x, .int .i64 k] (bv (rotB x k)) := by
  refine ⟨by simp [Pl.int], Pl.int, start [0, 1, 4, 5] Tryz.func92 rfl (by decide) rfl (by kernel_rfl) (by simp [Tryz.f92]) ?_⟩
  simp only [Tryz.f92]
  have hk := and63 h
  rw [bv_and] at hk
  simp only [BitVec.reduceOfInt] at hk
  repeat' (first | with_reducible refine seq_k fun K hK => ?_ | (with_reducible refine hK _ _ ?_; clear hK) | ((with_reducible first | refine gd_dec ?_ ?_ | refine gd_ndec ?_ ?_ | refine qC_dec ?_ ?_ | refine qC_ndec ?_ ?_ | refine piC_dec ?_ ?_ | refine piC_ndec ?_ ?_ | refine zC_dec ?_ ?_ | refine zC_ndec ?_ ?_ | refine zD_dec ?_ ?_ | refine yC_dec ?_ ?_ | refine yC_ndec ?_ ?_ | refine if_dec ?_ ?_ | refine if_ndec ?_ ?_) <;> intro hh) | simp -implicitDefEqProofs (disch := first | omega | assumption) only [go_sem, ↓reduceIte, Nat.reduceEqDiff, Int.reduceEq, Nat.reduceAdd, Nat.reduceSub, Nat.reduceMul, Nat.mul_one, Nat.one_mul, List.length_nil, List.length_cons, List.nil_append, List.cons_append, List.length_append, List.set_cons_zero, List.set_cons_succ, Nat.zero_add, Nat.sub_zero, Option.isNone_none, Option.isNone_some, Int.toNat_natCast, Nat.add_sub_cancel_left, Bool.not_true, Bool.not_false, BitVec.reduceOfInt, Int.reduceToNat, hk] | ((with_reducible first | refine gd_bool ?_ ?_ | refine if_bool ?_ ?_ | refine qC_bool ?_ ?_ | refine piC_bool ?_ ?_ | refine zC_bool ?_ ?_ | refine zD_bool ?_ ?_ | refine yC_bool ?_ ?_) <;> intro hh) | clear hK)
  rfl
theorem rot_occ (x : BitVec 64) {s : Int} (h : 0 ≤ s ∧ s ≤ 63) : (rotB x (s + 1)).getLsbD 0 = occB x s := by
  unfold rotB occB
  rw [BitVec.getLsbD_or, BitVec.getLsbD_shiftLeft, BitVec.getLsbD_ushiftRight]
  by_cases h1 : s = 63
  · subst h1; simp
  · rw [show (s + 1) % 64 = s + 1 by omega, show (64 - (s + 1)).toNat + 0 = (63 - s).toNat by omega]
    have : (0 : Nat) < (s + 1).toNat := by omega
    simp [this]
theorem occ_ok {x : BitVec 64} {s : Int} (h : 0 ≤ s ∧ s ≤ 63) : FnP (Tz z) 72 [bv x, .int .i8 s] (.bool (occB x s)) := by
  refine ⟨by simp [Pl.int], Pl.bool, start [0, 1, 4] Tryz.func72 rfl (by decide) rfl (by kernel_rfl) (by simp [Tryz.f72]) ?_⟩
  simp only [Tryz.f72]
  repeat' (first | (with_reducible first | refine call_p (rot_ok (x := x) (k := s + 1) (by omega)) ?_ | refine qG_call (rot_ok (x := x) (k := s + 1) (by omega)) ?_ | refine zG_call (rot_ok (x := x) (k := s + 1) (by omega)) ?_ | refine yG_call (rot_ok (x := x) (k := s + 1) (by omega)) ?_ | refine piG_call (rot_ok (x := x) (k := s + 1) (by omega)) ?_ | refine seq_k fun K hK => ?_) | (with_reducible refine hK _ _ ?_; clear hK) | ((with_reducible first | refine gd_dec ?_ ?_ | refine gd_ndec ?_ ?_ | refine qC_dec ?_ ?_ | refine qC_ndec ?_ ?_ | refine piC_dec ?_ ?_ | refine piC_ndec ?_ ?_ | refine zC_dec ?_ ?_ | refine zC_ndec ?_ ?_ | refine zD_dec ?_ ?_ | refine yC_dec ?_ ?_ | refine yC_ndec ?_ ?_ | refine if_dec ?_ ?_ | refine if_ndec ?_ ?_) <;> intro hh) | simp -implicitDefEqProofs (disch := first | omega | assumption) only [go_sem, ↓reduceIte, Nat.reduceEqDiff, Int.reduceEq, Nat.reduceAdd, Nat.reduceSub, Nat.reduceMul, Nat.mul_one, Nat.one_mul, List.length_nil, List.length_cons, List.nil_append, List.cons_append, List.length_append, List.set_cons_zero, List.set_cons_succ, Nat.zero_add, Nat.sub_zero, Option.isNone_none, Option.isNone_some, Int.toNat_natCast, Nat.add_sub_cancel_left, Bool.not_true, Bool.not_false, BitVec.reduceOfInt, Int.reduceToNat] | ((with_reducible first | refine gd_bool ?_ ?_ | refine if_bool ?_ ?_ | refine qC_bool ?_ ?_ | refine piC_bool ?_ ?_ | refine zC_bool ?_ ?_ | refine zD_bool ?_ ?_ | refine yC_bool ?_ ?_) <;> intro hh) | clear hK)
  rw [get_1, rot_occ x h]
def revBytes (x : BitVec 64) : BitVec 64 :=
  let y := (x >>> 8 &&& 71777214294589695#64) ||| (x &&& 71777214294589695#64) <<< 8
  let w := (y >>> 16 &&& 281470681808895#64) ||| (y &&& 281470681808895#64) <<< 16
  w >>> 32 ||| w <<< 32
def rev64 (x : BitVec 64) : BitVec 64 :=
  let y := (x >>> 1 &&& 6148914691236517205#64) ||| (x &&& 6148914691236517205#64) <<< 1
  let w := (y >>> 2 &&& 3689348814741910323#64) ||| (y &&& 3689348814741910323#64) <<< 2
  let v := (w >>> 4 &&& 1085102592571150095#64) ||| (w &&& 1085102592571150095#64) <<< 4
  revBytes v
theorem revBytes_ok {x : BitVec 64} : FnP (Tz z) 125 [bv x] (bv (revBytes x)) := by
  refine ⟨by simp [Pl.int], Pl.int, start [0, 2] Tryz.func125 rfl (by decide) rfl (by kernel_rfl) (by simp [Tryz.f125]) ?_⟩
  simp only [Tryz.f125]
  repeat' (first | with_reducible refine seq_k fun K hK => ?_ | (with_reducible refine hK _ _ ?_; clear hK) | ((with_reducible first | refine gd_dec ?_ ?_ | refine gd_ndec ?_ ?_ | refine qC_dec ?_ ?_ | refine qC_ndec ?_ ?_ | refine piC_dec ?_ ?_ | refine piC_ndec ?_ ?_ | refine zC_dec ?_ ?_ | refine zC_ndec ?_ ?_ | refine zD_dec ?_ ?_ | refine yC_dec ?_ ?_ | refine yC_ndec ?_ ?_ | refine if_dec ?_ ?_ | refine if_ndec ?_ ?_) <;> intro hh) | simp -implicitDefEqProofs (disch := first | omega | assumption) only [go_sem, ↓reduceIte, Nat.reduceEqDiff, Int.reduceEq, Nat.reduceAdd, Nat.reduceSub, Nat.reduceMul, Nat.mul_one, Nat.one_mul, List.length_nil, List.length_cons, List.nil_append, List.cons_append, List.length_append, List.set_cons_zero, List.set_cons_succ, Nat.zero_add, Nat.sub_zero, Option.isNone_none, Option.isNone_some, Int.toNat_natCast, Nat.add_sub_cancel_left, Bool.not_true, Bool.not_false, BitVec.reduceOfInt, Int.reduceToNat] | ((with_reducible first | refine gd_bool ?_ ?_ | refine if_bool ?_ ?_ | refine qC_bool ?_ ?_ | refine piC_bool ?_ ?_ | refine zC_bool ?_ ?_ | refine zD_bool ?_ ?_ | refine yC_bool ?_ ?_) <;> intro hh) | clear hK)
  rfl
theorem rev64_ok {x : BitVec 64} : FnP (Tz z) 119 [bv x] (bv (rev64 x)) := by
  refine ⟨by simp [Pl.int], Pl.int, start [0, 2] Tryz.func119 rfl (by decide) rfl (by kernel_rfl) (by simp [Tryz.f119]) ?_⟩
  simp only [Tryz.f119]
  repeat' (first | (with_reducible first | refine call_p (revBytes_ok) ?_ | refine qG_call (revBytes_ok) ?_ | refine zG_call (revBytes_ok) ?_ | refine yG_call (revBytes_ok) ?_ | refine piG_call (revBytes_ok) ?_ | refine seq_k fun K hK => ?_) | (with_reducible refine hK _ _ ?_; clear hK) | ((with_reducible first | refine gd_dec ?_ ?_ | refine gd_ndec ?_ ?_ | refine qC_dec ?_ ?_ | refine qC_ndec ?_ ?_ | refine piC_dec ?_ ?_ | refine piC_ndec ?_ ?_ | refine zC_dec ?_ ?_ | refine zC_ndec ?_ ?_ | refine zD_dec ?_ ?_ | refine yC_dec ?_ ?_ | refine yC_ndec ?_ ?_ | refine if_dec ?_ ?_ | refine if_ndec ?_ ?_) <;> intro hh) | simp -implicitDefEqProofs (disch := first | omega | assumption) only [go_sem, ↓reduceIte, Nat.reduceEqDiff, Int.reduceEq, Nat.reduceAdd, Nat.reduceSub, Nat.reduceMul, Nat.mul_one, Nat.one_mul, List.length_nil, List.length_cons, List.nil_append, List.cons_append, List.length_append, List.set_cons_zero, List.set_cons_succ, Nat.zero_add, Nat.sub_zero, Option.isNone_none, Option.isNone_some, Int.toNat_natCast, Nat.add_sub_cancel_left, Bool.not_true, Bool.not_false, BitVec.reduceOfInt, Int.reduceToNat] | ((with_reducible first | refine gd_bool ?_ ?_ | refine if_bool ?_ ?_ | refine qC_bool ?_ ?_ | refine piC_bool ?_ ?_ | refine zC_bool ?_ ?_ | refine zD_bool ?_ ?_ | refine yC_bool ?_ ?_) <;> intro hh) | clear hK)
  rfl
theorem rev_ok {x : BitVec 64} : FnP (Tz z) 111 [bv x] (bv (rev64 x)) := by
  refine ⟨by simp [Pl.int], Pl.int, start [0, 2] Tryz.func111 rfl (by decide) rfl (by kernel_rfl) (by simp [Tryz.f111]) ?_⟩
  simp only [Tryz.f111]
  repeat' (first | (with_reducible first | refine call_p (rev64_ok) ?_ | refine qG_call (rev64_ok) ?_ | refine zG_call (rev64_ok) ?_ | refine yG_call (rev64_ok) ?_ | refine piG_call (rev64_ok) ?_ | refine seq_k fun K hK => ?_) | (with_reducible refine hK _ _ ?_; clear hK) | ((with_reducible first | refine gd_dec ?_ ?_ | refine gd_ndec ?_ ?_ | refine qC_dec ?_ ?_ | refine qC_ndec ?_ ?_ | refine piC_dec ?_ ?_ | refine piC_ndec ?_ ?_ | refine zC_dec ?_ ?_ | refine zC_ndec ?_ ?_ | refine zD_dec ?_ ?_ | refine yC_dec ?_ ?_ | refine yC_ndec ?_ ?_ | refine if_dec ?_ ?_ | refine if_ndec ?_ ?_) <;> intro hh) | simp -implicitDefEqProofs (disch := first | omega | assumption) only [go_sem, ↓reduceIte, Nat.reduceEqDiff, Int.reduceEq, Nat.reduceAdd, Nat.reduceSub, Nat.reduceMul, Nat.mul_one, Nat.one_mul, List.length_nil, List.length_cons, List.nil_append, List.cons_append, List.length_append, List.set_cons_zero, List.set_cons_succ, Nat.zero_add, Nat.sub_zero, Option.isNone_none, Option.isNone_some, Int.toNat_natCast, Nat.add_sub_cancel_left, Bool.not_true, Bool.not_false, BitVec.reduceOfInt, Int.reduceToNat] | ((with_reducible first | refine gd_bool ?_ ?_ | refine if_bool ?_ ?_ | refine qC_bool ?_ ?_ | refine piC_bool ?_ ?_ | refine zC_bool ?_ ?_ | refine zD_bool ?_ ?_ | refine yC_bool ?_ ?_) <;> intro hh) | clear hK)
def linB (o p m : BitVec 64) : BitVec 64 := (((o &&& m) - 2#64 * p) ^^^ rev64 (rev64 (o &&& m) - 2#64 * rev64 p)) &&& m
theorem lin_ok {o p m : BitVec 64} : FnP (Tz z) 103 [bv o, bv p, bv m] (bv (linB o p m)) := by
  refine ⟨by simp [Pl.int], Pl.int, start [0, 1, 2, 6, 7] Tryz.func103 rfl (by decide) rfl (by kernel_rfl) (by simp [Tryz.f103]) ?_⟩
  simp only [Tryz.f103]
  repeat' (first | (with_reducible first | refine call_p (rev_ok) ?_ | refine qG_call (rev_ok) ?_ | refine zG_call (rev_ok) ?_ | refine yG_call (rev_ok) ?_ | refine piG_call (rev_ok) ?_ | refine seq_k fun K hK => ?_) | (with_reducible refine hK _ _ ?_; clear hK) | ((with_reducible first | refine gd_dec ?_ ?_ | refine gd_ndec ?_ ?_ | refine qC_dec ?_ ?_ | refine qC_ndec ?_ ?_ | refine piC_dec ?_ ?_ | refine piC_ndec ?_ ?_ | refine zC_dec ?_ ?_ | refine zC_ndec ?_ ?_ | refine zD_dec ?_ ?_ | refine yC_dec ?_ ?_ | refine yC_ndec ?_ ?_ | refine if_dec ?_ ?_ | refine if_ndec ?_ ?_) <;> intro hh) | simp -implicitDefEqProofs (disch := first | omega | assumption) only [go_sem, ↓reduceIte, Nat.reduceEqDiff, Int.reduceEq, Nat.reduceAdd, Nat.reduceSub, Nat.reduceMul, Nat.mul_one, Nat.one_mul, List.length_nil, List.length_cons, List.nil_append, List.cons_append, List.length_append, List.set_cons_zero, List.set_cons_succ, Nat.zero_add, Nat.sub_zero, Option.isNone_none, Option.isNone_some, Int.toNat_natCast, Nat.add_sub_cancel_left, Bool.not_true, Bool.not_false, BitVec.reduceOfInt, Int.reduceToNat] | ((with_reducible first | refine gd_bool ?_ ?_ | refine if_bool ?_ ?_ | refine qC_bool ?_ ?_ | refine piC_bool ?_ ?_ | refine zC_bool ?_ ?_ | refine zD_bool ?_ ?_ | refine yC_bool ?_ ?_) <;> intro hh) | clear hK)
  rfl
def tabB (l : List Int) (i : Nat) : BitVec 64 := BitVec.ofInt 64 (l.getD i 0)
end Go.Tb
end
section
namespace Go.Tb
open Go Go.Proofs
structure Brd where
  wk : BitVec 64
  wq : BitVec 64
  wr : BitVec 64
  wb : BitVec 64
  wn : BitVec 64
  wp : BitVec 64
  bk : BitVec 64
  bq : BitVec 64
  br : BitVec 64
  bb : BitVec 64
  bn : BitVec 64
  bp : BitVec 64
  w : BitVec 64
  b : BitVec 64
  e : BitVec 64
  wks : Int
  bks : Int
def boardL (B : Brd) : List Value := [bv B.wk, bv B.wq, bv B.wr, bv B.wb, bv B.wn, bv B.wp, bv B.bk, bv B.bq, bv B.br, bv B.bb, bv B.bn, bv B.bp, bv B.w, bv B.b, bv B.e, .int .i8 B.wks, .int .i8 B.bks]
theorem boardL_len (B : Brd) : (boardL B).length = 17 := rfl
theorem boardL_g0 (B : Brd) : (boardL B)[0]? = some (bv B.wk) := rfl
theorem boardL_g1 (B : Brd) : (boardL B)[1]? = some (bv B.wq) := rfl
theorem boardL_g2 (B : Brd) : (boardL B)[2]? = some (bv B.wr) := rfl
theorem boardL_g3 (B : Brd) : (boardL B)[3]? = some (bv B.wb) := rfl
theorem boardL_g4 (B : Brd) : (boardL B)[4]? = some (bv B.wn) := rfl
theorem boardL_g5 (B : Brd) : (boardL B)[5]? = some (bv B.wp) := rfl
theorem boardL_g6 (B : Brd) : (boardL B)[6]? = some (bv B.bk) := rfl
theorem boardL_g7 (B : Brd) : (boardL B)[7]? = some (bv B.bq) := rfl
theorem boardL_g8 (B : Brd) : (boardL B)[8]? = some (bv B.br) := rfl
theorem boardL_g9 (B : Brd) : (boardL B)[9]? = some (bv B.bb) := rfl
theorem boardL_g10 (B : Brd) : (boardL B)[10]? = some (bv B.bn) := rfl
theorem boardL_g11 (B : Brd) : (boardL B)[11]? = some (bv B.bp) := rfl
theorem boardL_g12 (B : Brd) : (boardL B)[12]? = some (bv B.w) := rfl
theorem boardL_g13 (B : Brd) : (boardL B)[13]? = some (bv B.b) := rfl
theorem boardL_g14 (B : Brd) : (boardL B)[14]? = some (bv B.e) := rfl
theorem boardL_g15 (B : Brd) : (boardL B)[15]? = some (.int .i8 B.wks) := rfl
theorem boardL_g16 (B : Brd) : (boardL B)[16]? = some (.int .i8 B.bks) := rfl
theorem boardL_s0 (B : Brd) (x : BitVec 64) : (boardL B).set 0 (bv x) = boardL { B with wk := x } := rfl
theorem boardL_s1 (B : Brd) (x : BitVec 64) : (boardL B).set 1 (bv x) = boardL { B with wq := x } := rfl
theorem boardL_s2 (B : Brd) (x : BitVec 64) : (boardL B).set 2 (bv x) = boardL { B with wr := x } := rfl
theorem boardL_s3 (B : Brd) (x : BitVec 64) : (boardL B).set 3 (bv x) = boardL { B with wb := x } := rfl
theorem boardL_s4 (B : Brd) (x : BitVec 64) : (boardL B).set 4 (bv x) = boardL { B with wn := x } := rfl
theorem boardL_s5 (B : Brd) (x : BitVec 64) : (boardL B).set 5 (bv x) = boardL { B with wp := x } := rfl
theorem boardL_s6 (B : Brd) (x : BitVec 64) : (boardL B).set 6 (bv x) = boardL { B with bk := x } := rfl
theorem boardL_s7 (B : Brd) (x : BitVec 64) : (boardL B).set 7 (bv x) = boardL { B with bq := x } := rfl
theorem boardL_s8 (B : Brd) (x : BitVec 64) : (boardL B).set 8 (bv x) = boardL { B with br := x } := rfl
theorem boardL_s9 (B : Brd) (x : BitVec 64) : (boardL B).set 9 (bv x) = boardL { B with bb := x } := rfl
theorem boardL_s10 (B : Brd) (x : BitVec 64) : (boardL B).set 10 (bv x) = boardL { B with bn := x } := rfl
theorem boardL_s11 (B : Brd) (x : BitVec 64) : (boardL B).set 11 (bv x) = boardL { B with bp := x } := rfl
theorem boardL_s12 (B : Brd) (x : BitVec 64) : (boardL B).set 12 (bv x) = boardL { B with w := x } := rfl
theorem boardL_s13 (B : Brd) (x : BitVec 64) : (boardL B).set 13 (bv x) = boardL { B with b := x } := rfl
theorem boardL_s14 (B : Brd) (x : BitVec 64) : (boardL B).set 14 (bv x) = boardL { B with e := x } := rfl
theorem boardL_s15 (B : Brd) (x : Int) : (boardL B).set 15 (.int .i8 x) = boardL { B with wks := x } := rfl
theorem boardL_s16 (B : Brd) (x : Int) : (boardL B).set 16 (.int .i8 x) = boardL { B with bks := x } := rfl
attribute [go_sem] boardL_len boardL_g0 boardL_g1 boardL_g2 boardL_g3 boardL_g4 boardL_g5 boardL_g6 boardL_g7 boardL_g8 boardL_g9 boardL_g10 boardL_g11 boardL_g12 boardL_g13 boardL_g14 boardL_g15 boardL_g16 boardL_s0 boardL_s1 boardL_s2 boardL_s3 boardL_s4 boardL_s5 boardL_s6 boardL_s7 boardL_s8 boardL_s9 boardL_s10 boardL_s11 boardL_s12 boardL_s13 boardL_s14 boardL_s15 boardL_s16
structure Pd where
  cr : ByteArray
  half : Int
  mc : Int
  turn : Int
  ep : Int
  chk : Bool
abbrev nilS : Value := .slice none 0 0
def psL (b : Nat) (vm : Value) (D : Pd) : List Value := [.pointer (some ⟨b, 0, none⟩), .string D.cr, vm, .int .i64 D.half, .int .i64 D.mc, .int .i8 D.turn, .int .i8 D.ep, .bool D.chk]
section
variable (b : Nat) (vm : Value) (D : Pd)
theorem psL_len : (psL b vm D).length = 8 := rfl
theorem psL_g0 : (psL b vm D)[0]? = some (.pointer (some ⟨b, 0, none⟩)) := rfl
theorem psL_g1 : (psL b vm D)[1]? = some (.string D.cr) := rfl
theorem psL_g2 : (psL b vm D)[2]? = some vm := rfl
theorem psL_g3 : (psL b vm D)[3]? = some (.int .i64 D.half) := rfl
theorem psL_g4 : (psL b vm D)[4]? = some (.int .i64 D.mc) := rfl
theorem psL_g5 : (psL b vm D)[5]? = some (.int .i8 D.turn) := rfl
theorem psL_g6 : (psL b vm D)[6]? = some (.int .i8 D.ep) := rfl
theorem psL_g7 : (psL b vm D)[7]? = some (.bool D.chk) := rfl
theorem psL_s2 (x : Option Addr) (n m : Nat) : (psL b vm D).set 2 (.slice x n m) = psL b (.slice x n m) D := rfl
theorem psL_s5 (x : Int) : (psL b vm D).set 5 (.int .i8 x) = psL b vm { D with turn := x } := rfl
theorem psL_s7 (x : Bool) : (psL b vm D).set 7 (.bool x) = psL b vm { D with chk := x } := rfl
theorem psL_map (σ : Nat → Nat) : (psL b vm D).map (rl σ) = psL (σ b) (rl σ vm) D := by simp [psL]
end
attribute [go_sem] psL_len psL_g0 psL_g1 psL_g2 psL_g3 psL_g4 psL_g5 psL_g6 psL_g7 psL_s2 psL_s5 psL_s7
structure Mv where
  tags : Int
  s1 : Int
  s2 : Int
  promo : Int
def mvL (B : Mv) : List Value := [.pointer none, .pointer none, .string ⟨#[]⟩, .string ⟨#[]⟩, .map none, .slice none 0 0, .int .u64 0, .int .u16 B.tags, .int .i8 B.s1, .int .i8 B.s2, .int .i8 B.promo]
theorem mvL_len (B : Mv) : (mvL B).length = 11 := rfl
theorem mvL_sub (B : Mv) : sub (mvL B) 0 11 = some (mvL B) := rfl
theorem mvL_g7 (B : Mv) : (mvL B)[7]? = some (.int .u16 B.tags) := rfl
theorem mvL_g8 (B : Mv) : (mvL B)[8]? = some (.int .i8 B.s1) := rfl
theorem mvL_g9 (B : Mv) : (mvL B)[9]? = some (.int .i8 B.s2) := rfl
theorem mvL_g10 (B : Mv) : (mvL B)[10]? = some (.int .i8 B.promo) := rfl
theorem mvL_s7 (B : Mv) (x : Int) : (mvL B).set 7 (.int .u16 x) = mvL { B with tags := x } := rfl
theorem mvL_s8 (B : Mv) (x : Int) : (mvL B).set 8 (.int .i8 x) = mvL { B with s1 := x } := rfl
theorem mvL_s9 (B : Mv) (x : Int) : (mvL B).set 9 (.int .i8 x) = mvL { B with s2 := x } := rfl
theorem mvL_s10 (B : Mv) (x : Int) : (mvL B).set 10 (.int .i8 x) = mvL { B with promo := x } := rfl
attribute [go_sem] mvL_len mvL_sub mvL_g7 mvL_g8 mvL_g9 mvL_g10 mvL_s7 mvL_s8 mvL_s9 mvL_s10
theorem mvL_pl (B : Mv) : ∀ v ∈ mvL B, Pl v := by
  intro v hv ρ
  simp only [mvL, List.mem_cons, List.not_mem_nil, or_false] at hv
  rcases hv with rfl | rfl | rfl | rfl | rfl | rfl | rfl | rfl | rfl | rfl | rfl <;> simp
theorem boardL_pl (B : Brd) : ∀ v ∈ boardL B, Pl v := by
  intro v hv ρ
  simp only [boardL, List.mem_cons, List.not_mem_nil, or_false] at hv
  rcases hv with rfl | rfl | rfl | rfl | rfl | rfl | rfl | rfl | rfl | rfl | rfl | rfl | rfl | rfl | rfl | rfl | rfl <;> simp
theorem pl_map {l : List Value} (h : ∀ v ∈ l, Pl v) (σ : Nat → Nat) : l.map (rl σ) = l := map_pl h σ
theorem mvL_map (B : Mv) (σ : Nat → Nat) : (mvL B).map (rl σ) = mvL B := map_pl (mvL_pl B) σ
theorem boardL_map (B : Brd) (σ : Nat → Nat) : (boardL B).map (rl σ) = boardL B := map_pl (boardL_pl B) σ
theorem wr_bd {B : Brd} {T : TypeId} {L : List AO} {i o : Nat} {k : IntKind} {n : Int} (h : o < 17) : wrC (some (.cells (boardL B) T)) L i 1 o [.int k n] = some (L.set i (.cells ((boardL B).set o (.int k n)) T)) := wrC_int (by rw [boardL_len]; exact h)
theorem wr_mv {B : Mv} {T : TypeId} {L : List AO} {i o : Nat} {k : IntKind} {n : Int} (h : o < 11) : wrC (some (.cells (mvL B) T)) L i 1 o [.int k n] = some (L.set i (.cells ((mvL B).set o (.int k n)) T)) := wrC_int (by rw [mvL_len]; exact h)
theorem wr_ps {b : Nat} {vm : Value} {B : Pd} {T : TypeId} {L : List AO} {i o : Nat} {k : IntKind} {n : Int} (h : o < 8) : wrC (some (.cells (psL b vm B) T)) L i 1 o [.int k n] = some (L.set i (.cells ((psL b vm B).set o (.int k n)) T)) := wrC_int (by rw [psL_len]; exact h)
theorem wr_psb {b : Nat} {vm : Value} {B : Pd} {T : TypeId} {L : List AO} {i o : Nat} {n : Bool} (h : o < 8) : wrC (some (.cells (psL b vm B) T)) L i 1 o [.bool n] = some (L.set i (.cells ((psL b vm B).set o (.bool n)) T)) := wrC_bool (by rw [psL_len]; exact h)
theorem wr_pss {b : Nat} {vm : Value} {B : Pd} {T : TypeId} {L : List AO} {i o : Nat} {p : Option Addr} {n m : Nat} (h : o < 8) : wrC (some (.cells (psL b vm B) T)) L i 1 o [.slice p n m] = some (L.set i (.cells ((psL b vm B).set o (.slice p n m)) T)) := wrC_slice (by rw [psL_len]; exact h)
attribute [go_sem] wr_bd wr_mv wr_ps wr_psb wr_pss
def Brd.f (B : Brd) : Nat → BitVec 64
  | 0 => B.wk | 1 => B.wq | 2 => B.wr | 3 => B.wb | 4 => B.wn | 5 => B.wp
  | 6 => B.bk | 7 => B.bq | 8 => B.br | 9 => B.bb | 10 => B.bn | 11 => B.bp
  | _ => 0#64
def Brd.put (B : Brd) (i : Nat) (x : BitVec 64) : Brd := match i with
  | 0 => { B with wk := x } | 1 => { B with wq := x } | 2 => { B with wr := x } | 3 => { B with wb := x } | 4 => { B with wn := x } | 5 => { B with wp := x }
  | 6 => { B with bk := x } | 7 => { B with bq := x } | 8 => { B with br := x } | 9 => { B with bb := x } | 10 => { B with bn := x } | 11 => { B with bp := x }
  | _ => B
section
variable {X : Cx}
structure FnR1 (X : Cx) (f : FuncId) (c : List Value) (T : TypeId) (vs : List Value) (v : Value) : Prop where
  pa : ∀ u ∈ vs, Pl u
  pc : ∀ u ∈ c, Pl u
  pv : Pl v
  call : CallM X f (.pointer (some ⟨100, 0, none⟩) :: vs) [.cells c T] fun u N => u = v ∧ N = [.cells c T]
theorem FnR1.r {f : FuncId} {c : List Value} {T : TypeId} {vs : List Value} {v : Value} (h : FnR1 X f c T vs v) : FnR X f (.pointer (some ⟨100, 0, none⟩) :: vs) [.cells c T] v :=
  ⟨fun u hu => by
    cases hu with
    | head => exact WF_new (n := 100)
    | tail _ hu => exact (h.pa u hu).wf _,
   fun o ho => by
    cases ho with
    | head => exact fun u hu => (h.pc u hu).wf _
    | tail _ ho => exact (List.not_mem_nil ho).elim,
   h.pv.wf _, h.call⟩
theorem FnR1.q {f : FuncId} {c : List Value} {T : TypeId} {vs : List Value} {v : Value} (h : FnR1 X f c T vs v) {b : Nat} {L : List AO} {K : Value → Prop} (hb : 100 ≤ b) (hL : L[b - 100]? = some (.cells c T)) (hk : K v) : CallQ X f (.pointer (some ⟨b, 0, none⟩) :: vs) L K := by
  have hlt := (List.getElem?_eq_some_iff.1 hL).1
  have hs : sig [b - 100] L.length 100 = b := by simp [sig]; omega
  refine h.r.useQ [b - 100] (by simp [idxOk, hlt]) ⟨by rw [hL, rnO, map_pl h.pc], trivial⟩ ?_ ?_
  · simp only [List.map_cons, rl_ptr, hs, map_pl h.pa]
  · rw [h.pv]; exact hk
theorem FnR1.m {f : FuncId} {c : List Value} {T : TypeId} {vs : List Value} {v : Value} (h : FnR1 X f c T vs v) {b : Nat} {L : List AO} {K : Value → List AO → Prop} (hb : 100 ≤ b) (hL : L[b - 100]? = some (.cells c T)) (hk : K v L) : CallM X f (.pointer (some ⟨b, 0, none⟩) :: vs) L K := by
  have hlt := (List.getElem?_eq_some_iff.1 hL).1
  have hs : sig [b - 100] L.length 100 = b := by simp [sig]; omega
  refine h.r.useM [b - 100] (by simp [idxOk, hlt]) ⟨by rw [hL, rnO, map_pl h.pc], trivial⟩ ?_ ?_
  · simp only [List.map_cons, rl_ptr, hs, map_pl h.pa]
  · rw [h.pv]; exact hk
structure FnW1 (X : Cx) (f : FuncId) (c : List Value) (T : TypeId) (vs : List Value) (v : Value) (c' : List Value) : Prop where
  pa : ∀ u ∈ vs, Pl u
  pc : ∀ u ∈ c, Pl u
  pv : Pl v
  pc' : ∀ u ∈ c', Pl u
  call : CallM X f (.pointer (some ⟨100, 0, none⟩) :: vs) [.cells c T] fun u N => u = v ∧ N = [.cells c' T]
theorem FnW1.m {f : FuncId} {c c' : List Value} {T : TypeId} {vs : List Value} {v : Value} (h : FnW1 X f c T vs v c') {b : Nat} {L : List AO} {K : Value → List AO → Prop} (hb : 100 ≤ b) (hL : L[b - 100]? = some (.cells c T)) (hk : K v (L.set (b - 100) (.cells c' T))) : CallM X f (.pointer (some ⟨b, 0, none⟩) :: vs) L K := by
  have hlt := (List.getElem?_eq_some_iff.1 hL).1
  have hs : sig [b - 100] L.length 100 = b := by simp [sig]; omega
  have hm : FnM X f (.pointer (some ⟨100, 0, none⟩) :: vs) [.cells c T] (fun _ : Unit => True) (fun _ => v) (fun _ => [.cells c' T]) :=
    ⟨fun u hu => by
      cases hu with
      | head => exact WF_new (n := 100)
      | tail _ hu => exact (h.pa u hu).wf _,
     fun o ho => by
      cases ho with
      | head => exact fun u hu => (h.pc u hu).wf _
      | tail _ ho => exact (List.not_mem_nil ho).elim,
     fun _ _ o ho => by simp at ho, h.call.mono fun _ _ ⟨h1, h2⟩ => ⟨(), trivial, h1, h2⟩⟩
  refine hm.use [b - 100] (by simp [idxOk, hlt]) ⟨by rw [hL, rnO, map_pl h.pc], trivial⟩ ?_ fun _ _ => ?_
  · simp only [List.map_cons, rl_ptr, hs, map_pl h.pa]
  · rw [h.pv]
    simpa [fixL, setAll, rnO, map_pl h.pc'] using hk
section
variable {all rest os : List Oper} {ss : List Step} {acc : AccA} {d dst : Option Tmp} {fr : Fr} {L : List AO} {f : FuncId} {b : Nat} {vs c c' : List Value} {T : TypeId} {v : Value} {op : Op} {i : Nat} {bb : Bool} {js : List Nat}
theorem call_r1 {K : Fr → List AO → Prop} (h : FnR1 X f c T vs v) (hb : 100 ≤ b) (hL : L[b - 100]? = some (.cells c T)) (hk : wpOps X all rest (fr.put d v) L K) : CallO X (some (f, [], [])) (some (.pointer (some ⟨b, 0, none⟩) :: vs)) all rest fr d L K :=
  call_mm (R := fun u N => u = v ∧ N = L) (h.m hb hL ⟨rfl, rfl⟩) (by rintro _ _ ⟨rfl, rfl⟩; exact hk)
theorem qG_r1 {K : Fr → Prop} (h : FnR1 X f c T vs v) (hb : 100 ≤ b) (hL : L[b - 100]? = some (.cells c T)) (hk : wpQs X all L rest (fr.put dst v) K) : qG X (.c (f, [], []) (.pointer (some ⟨b, 0, none⟩) :: vs)) dst all rest fr L K :=
  qG_q (R := fun u => u = v) (h.q hb hL rfl) (by rintro _ rfl; exact hk)
theorem zG_r1 {K : Fr → List AO → Prop} (h : FnR1 X f c T vs v) (hb : 100 ≤ b) (hL : L[b - 100]? = some (.cells c T)) (hk : wpPz X all (i + 1) os ss (if bb then (i, obl X fr op v) :: acc else acc) (fr.put dst v) L K) : zG X bb (.c (f, [], []) (.pointer (some ⟨b, 0, none⟩) :: vs)) dst op i all os ss acc fr L K :=
  zG_q (R := fun u => u = v) (h.q hb hL rfl) (by rintro _ rfl; exact hk)
theorem call_ri {K : Fr → List AO → Prop} (c : List Value) (T : TypeId) (v : Value) (hb : 100 ≤ b) (hL : L[b - 100]? = some (.cells c T)) (h : FnR1 X f c T vs v) (hk : wpOps X all rest (fr.put d v) L K) : CallO X (some (f, [], [])) (some (.pointer (some ⟨b, 0, none⟩) :: vs)) all rest fr d L K := call_r1 h hb hL hk
theorem qG_ri {K : Fr → Prop} (c : List Value) (T : TypeId) (v : Value) (hb : 100 ≤ b) (hL : L[b - 100]? = some (.cells c T)) (h : FnR1 X f c T vs v) (hk : wpQs X all L rest (fr.put dst v) K) : qG X (.c (f, [], []) (.pointer (some ⟨b, 0, none⟩) :: vs)) dst all rest fr L K := qG_r1 h hb hL hk
theorem zG_ri {K : Fr → List AO → Prop} (c : List Value) (T : TypeId) (v : Value) (hb : 100 ≤ b) (hL : L[b - 100]? = some (.cells c T)) (h : FnR1 X f c T vs v) (hk : wpPz X all (i + 1) os ss (if bb then (i, obl X fr op v) :: acc else acc) (fr.put dst v) L K) : zG X bb (.c (f, [], []) (.pointer (some ⟨b, 0, none⟩) :: vs)) dst op i all os ss acc fr L K := zG_r1 h hb hL hk
theorem call_wi {K : Fr → List AO → Prop} (c : List Value) (T : TypeId) (v : Value) (c' : List Value) (hb : 100 ≤ b) (hL : L[b - 100]? = some (.cells c T)) (h : FnW1 X f c T vs v c') (hk : wpOps X all rest (fr.put d v) (L.set (b - 100) (.cells c' T)) K) : CallO X (some (f, [], [])) (some (.pointer (some ⟨b, 0, none⟩) :: vs)) all rest fr d L K :=
  call_mm (R := fun u N => u = v ∧ N = L.set (b - 100) (.cells c' T)) (h.m hb hL ⟨rfl, rfl⟩) (by rintro _ _ ⟨rfl, rfl⟩; exact hk)
end
end
structure FnR2 (X : Cx) (f : FuncId) (D : Pd) (B : Brd) (vs : List Value) (v : Value) : Prop where
  pa : ∀ u ∈ vs, Pl u
  pv : Pl v
  call : CallM X f (.pointer (some ⟨100, 0, none⟩) :: vs) [.cells (psL 101 nilS D) 82, .cells (boardL B) 110] fun u N => u = v ∧ N = [.cells (psL 101 nilS D) 82, .cells (boardL B) 110]
theorem WF_ptrN {n b o : Nat} (h : b < n) : WF n (.pointer (some ⟨b, o, none⟩)) := fun ρ ρ' e => by simp [e b h]
theorem psL_wf {n b : Nat} {vm : Value} {D : Pd} (h : b < n) (hv : WF n vm) : ∀ u ∈ psL b vm D, WF n u := by
  intro u hu
  simp only [psL, List.mem_cons, List.not_mem_nil, or_false] at hu
  rcases hu with rfl | rfl | rfl | rfl | rfl | rfl | rfl | rfl
  · exact WF_ptrN h
  · exact Pl.str.wf _
  · exact hv
  · exact Pl.int.wf _
  · exact Pl.int.wf _
  · exact Pl.int.wf _
  · exact Pl.int.wf _
  · exact Pl.bool.wf _
theorem Pl.nilS : Pl nilS := fun _ => by simp
section
variable {X : Cx} {f : FuncId} {D : Pd} {B : Brd} {vs : List Value} {v : Value}
theorem FnR2.r (h : FnR2 X f D B vs v) : FnR X f (.pointer (some ⟨100, 0, none⟩) :: vs) [.cells (psL 101 nilS D) 82, .cells (boardL B) 110] v :=
  ⟨fun u hu => by
    cases hu with
    | head => exact WF_ptrN (by simp)
    | tail _ hu => exact (h.pa u hu).wf _,
   fun o ho => by
    simp only [List.mem_cons, List.not_mem_nil, or_false] at ho
    rcases ho with rfl | rfl
    · exact psL_wf (by simp) (Pl.nilS.wf _)
    · exact fun u hu => (boardL_pl B u hu).wf _,
   h.pv.wf _, h.call⟩
theorem FnR2.fit {L : List AO} {b bb : Nat} (hb : 100 ≤ b) (hL : L[b - 100]? = some (.cells (psL bb nilS D) 82)) (hbb : 100 ≤ bb) (hB : L[bb - 100]? = some (.cells (boardL B) 110)) (hne : b ≠ bb) :
    idxOk [b - 100, bb - 100] 2 L.length = true ∧ fitL (sig [b - 100, bb - 100] L.length) L [b - 100, bb - 100] [.cells (psL 101 nilS D) 82, .cells (boardL B) 110] ∧ sig [b - 100, bb - 100] L.length 100 = b := by
  have h1 := (List.getElem?_eq_some_iff.1 hL).1
  have h2 := (List.getElem?_eq_some_iff.1 hB).1
  have s1 : sig [b - 100, bb - 100] L.length 100 = b := by simp [sig]; omega
  have s2 : sig [b - 100, bb - 100] L.length 101 = bb := by simp [sig]; omega
  refine ⟨by simp [idxOk, h1, h2]; omega, ⟨?_, ?_, trivial⟩, s1⟩
  · rw [hL, rnO, psL_map, s2, Pl.nilS]
  · rw [hB, rnO, boardL_map]
theorem FnR2.q (h : FnR2 X f D B vs v) {b bb : Nat} {L : List AO} {K : Value → Prop} (hb : 100 ≤ b) (hL : L[b - 100]? = some (.cells (psL bb nilS D) 82)) (hbb : 100 ≤ bb) (hB : L[bb - 100]? = some (.cells (boardL B) 110)) (hne : b ≠ bb) (hk : K v) : CallQ X f (.pointer (some ⟨b, 0, none⟩) :: vs) L K := by
  obtain ⟨h1, h2, h3⟩ := FnR2.fit (L := L) hb hL hbb hB hne
  refine h.r.useQ _ h1 h2 ?_ ?_
  · simp only [List.map_cons, rl_ptr, h3, map_pl h.pa]
  · rw [h.pv]; exact hk
theorem FnR2.m (h : FnR2 X f D B vs v) {b bb : Nat} {L : List AO} {K : Value → List AO → Prop} (hb : 100 ≤ b) (hL : L[b - 100]? = some (.cells (psL bb nilS D) 82)) (hbb : 100 ≤ bb) (hB : L[bb - 100]? = some (.cells (boardL B) 110)) (hne : b ≠ bb) (hk : K v L) : CallM X f (.pointer (some ⟨b, 0, none⟩) :: vs) L K := by
  obtain ⟨h1, h2, h3⟩ := FnR2.fit (L := L) hb hL hbb hB hne
  refine h.r.useM _ h1 h2 ?_ ?_
  · simp only [List.map_cons, rl_ptr, h3, map_pl h.pa]
  · rw [h.pv]; exact hk
variable {all rest os : List Oper} {ss : List Step} {acc : AccA} {d dst : Option Tmp} {fr : Fr} {L : List AO} {b : Nat} {op : Op} {i : Nat} {q : Bool}
theorem call_r2 {K : Fr → List AO → Prop} (bb : Nat) (h : FnR2 X f D B vs v) (hb : 100 ≤ b) (hL : L[b - 100]? = some (.cells (psL bb nilS D) 82)) (hbb : 100 ≤ bb) (hB : L[bb - 100]? = some (.cells (boardL B) 110)) (hne : b ≠ bb) (hk : wpOps X all rest (fr.put d v) L K) : CallO X (some (f, [], [])) (some (.pointer (some ⟨b, 0, none⟩) :: vs)) all rest fr d L K :=
  call_mm (R := fun u N => u = v ∧ N = L) (h.m hb hL hbb hB hne ⟨rfl, rfl⟩) (by rintro _ _ ⟨rfl, rfl⟩; exact hk)
theorem qG_r2 {K : Fr → Prop} (bb : Nat) (h : FnR2 X f D B vs v) (hb : 100 ≤ b) (hL : L[b - 100]? = some (.cells (psL bb nilS D) 82)) (hbb : 100 ≤ bb) (hB : L[bb - 100]? = some (.cells (boardL B) 110)) (hne : b ≠ bb) (hk : wpQs X all L rest (fr.put dst v) K) : qG X (.c (f, [], []) (.pointer (some ⟨b, 0, none⟩) :: vs)) dst all rest fr L K :=
  qG_q (R := fun u => u = v) (h.q hb hL hbb hB hne rfl) (by rintro _ rfl; exact hk)
theorem zG_r2 {K : Fr → List AO → Prop} (bb : Nat) (h : FnR2 X f D B vs v) (hb : 100 ≤ b) (hL : L[b - 100]? = some (.cells (psL bb nilS D) 82)) (hbb : 100 ≤ bb) (hB : L[bb - 100]? = some (.cells (boardL B) 110)) (hne : b ≠ bb) (hk : wpPz X all (i + 1) os ss (if q then (i, obl X fr op v) :: acc else acc) (fr.put dst v) L K) : zG X q (.c (f, [], []) (.pointer (some ⟨b, 0, none⟩) :: vs)) dst op i all os ss acc fr L K :=
  zG_q (R := fun u => u = v) (h.q hb hL hbb hB hne rfl) (by rintro _ rfl; exact hk)
end
theorem Pl.ptr0 : Pl (.pointer none) := fun _ => by simp
theorem tab_get {l : List Int} (hl : (l.all fun x => decide (0 ≤ x) && decide (x < 18446744073709551616)) = true) {i : Nat} (h : i < l.length) : (u64s l)[i]? = some (bv (tabB l i)) := by
  have h1 : l[i]? = some l[i] := List.getElem?_eq_getElem h
  simp only [u64s, List.getElem?_map, h1, Option.map_some, tabB, List.getD_eq_getElem?_getD, Option.getD_some, Option.some.injEq, Value.int.injEq, true_and]
  have h2 := List.all_eq_true.1 hl _ (List.getElem_mem h)
  simp only [Bool.and_eq_true, decide_eq_true_eq] at h2
  rw [BitVec.toNat_ofInt]
  omega
theorem dia_get {i : Nat} (h : i < 64) : (u64s bbDiagonals)[i]? = some (bv (tabB bbDiagonals i)) := tab_get (by decide) h
theorem adi_get {i : Nat} (h : i < 64) : (u64s bbAntiDiagonals)[i]? = some (bv (tabB bbAntiDiagonals i)) := tab_get (by decide) h
theorem kni_get {i : Nat} (h : i < 64) : (u64s bbKnightMoves)[i]? = some (bv (tabB bbKnightMoves i)) := tab_get (by decide) h
theorem kin_get {i : Nat} (h : i < 64) : (u64s bbKingMoves)[i]? = some (bv (tabB bbKingMoves i)) := tab_get (by decide) h
theorem fil_get {i : Nat} (h : i < 8) : (u64s bbFiles)[i]? = some (bv (tabB bbFiles i)) := tab_get (by decide) h
theorem ran_get {i : Nat} (h : i < 8) : (u64s bbRanks)[i]? = some (bv (tabB bbRanks i)) := tab_get (by decide) h
def i8C (l : List Int) (k : Nat) : Int := l.getD k 0
theorem i8_get {l : List Int} {k : Nat} (h : k < l.length) : (i8s l)[k]? = some (.int .i8 (i8C l k)) := by
  simp [i8s, i8C, h]
theorem all_get {k : Nat} (h : k < 12) : (i8s [1, 2, 3, 4, 5, 6, 7, 8, 9, 10, 11, 12])[k]? = some (.int .i8 ((k : Int) + 1)) := by
  have : ∀ k : Fin 12, (i8s [1, 2, 3, 4, 5, 6, 7, 8, 9, 10, 11, 12])[k.val]? = some (.int .i8 ((k.val : Int) + 1)) := by
    intro k; rcases k with ⟨k, hk⟩
    rcases k with _|_|_|_|_|_|_|_|_|_|_|_|k <;> first | rfl | omega
  exact this ⟨k, h⟩
theorem pro_get {k : Nat} (h : k < 4) : (i8s [2, 3, 4, 5])[k]? = some (.int .i8 ((k : Int) + 2)) := by
  have : ∀ k : Fin 4, (i8s [2, 3, 4, 5])[k.val]? = some (.int .i8 ((k.val : Int) + 2)) := by
    intro k; rcases k with ⟨k, hk⟩
    rcases k with _|_|_|_|k <;> first | rfl | omega
  exact this ⟨k, h⟩
attribute [go_sem] dia_get adi_get kni_get kin_get fil_get ran_get all_get pro_get
end Go.Tb
end
