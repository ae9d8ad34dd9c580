/-
  A part of the proof (my own): of the texts that the claim's last text rests on: parts B2, B3, B4.
-/
import Derived.Test.YtigjokkakcmmdaaGreatDoorT10
set_option linter.unusedSimpArgs false
set_option linter.unusedVariables false
section
namespace Go.Tb
open Go Go.Proofs
variable {z : Nat × Nat}
set_option maxRecDepth 20000
def diaB (o : BitVec 64) (s : Int) : BitVec 64 := linB o (sqB s) (tabB bbDiagonals s.toNat) ||| linB o (sqB s) (tabB bbAntiDiagonals s.toNat)
def hvB (o : BitVec 64) (s : Int) : BitVec 64 := linB o (sqB s) (tabB bbRanks (s / 8).toNat) ||| linB o (sqB s) (tabB bbFiles (s % 8).toNat)
theorem dia_ok {o : BitVec 64} {s : Int} (h : 0 ≤ s ∧ s ≤ 63) : FnP (Tz z) 96 [bv o, .int .i8 s] (bv (diaB o s)) := by
  refine ⟨by simp [Pl.int], Pl.int, start [0, 1, 4, 5, 6, 7] Tryz.func96 rfl (by decide) rfl (by kernel_rfl) (by simp [Tryz.f96]) ?_⟩
  simp only [Tryz.f96]
  repeat' (first | (with_reducible first | refine call_p (bbSq_ok h) ?_ | refine qG_call (bbSq_ok h) ?_ | refine zG_call (bbSq_ok h) ?_ | refine yG_call (bbSq_ok h) ?_ | refine piG_call (bbSq_ok h) ?_ | refine call_p (lin_ok) ?_ | refine qG_call (lin_ok) ?_ | refine zG_call (lin_ok) ?_ | refine yG_call (lin_ok) ?_ | refine piG_call (lin_ok) ?_ | refine seq_k fun K hK => ?_) | (with_reducible refine hK _ _ ?_; clear hK) | ((with_reducible first | refine gd_dec ?_ ?_ | refine gd_ndec ?_ ?_ | refine qC_dec ?_ ?_ | refine qC_ndec ?_ ?_ | refine piC_dec ?_ ?_ | refine piC_ndec ?_ ?_ | refine zC_dec ?_ ?_ | refine zC_ndec ?_ ?_ | refine zD_dec ?_ ?_ | refine yC_dec ?_ ?_ | refine yC_ndec ?_ ?_ | refine if_dec ?_ ?_ | refine if_ndec ?_ ?_) <;> intro hh) | simp -implicitDefEqProofs (disch := first | omega | assumption) only [go_sem, ↓reduceIte, Nat.reduceEqDiff, Int.reduceEq, Nat.reduceAdd, Nat.reduceSub, Nat.reduceMul, Nat.mul_one, Nat.one_mul, List.length_nil, List.length_cons, List.nil_append, List.cons_append, List.length_append, List.set_cons_zero, List.set_cons_succ, Nat.zero_add, Nat.sub_zero, Option.isNone_none, Option.isNone_some, Int.toNat_natCast, Nat.add_sub_cancel_left, Bool.not_true, Bool.not_false, BitVec.reduceOfInt, Int.reduceToNat] | ((with_reducible first | refine gd_bool ?_ ?_ | refine if_bool ?_ ?_ | refine qC_bool ?_ ?_ | refine piC_bool ?_ ?_ | refine zC_bool ?_ ?_ | refine zD_bool ?_ ?_ | refine yC_bool ?_ ?_) <;> intro hh) | clear hK)
  rfl
theorem hv_ok {o : BitVec 64} {s : Int} (h : 0 ≤ s ∧ s ≤ 63) : FnP (Tz z) 97 [bv o, .int .i8 s] (bv (hvB o s)) := by
  refine ⟨by simp [Pl.int], Pl.int, start [0, 1, 4, 5, 6, 7] Tryz.func97 rfl (by decide) rfl (by kernel_rfl) (by simp [Tryz.f97]) ?_⟩
  simp only [Tryz.f97]
  repeat' (first | (with_reducible first | refine call_p (bbSq_ok h) ?_ | refine qG_call (bbSq_ok h) ?_ | refine zG_call (bbSq_ok h) ?_ | refine yG_call (bbSq_ok h) ?_ | refine piG_call (bbSq_ok h) ?_ | refine call_p (lin_ok) ?_ | refine qG_call (lin_ok) ?_ | refine zG_call (lin_ok) ?_ | refine yG_call (lin_ok) ?_ | refine piG_call (lin_ok) ?_ | refine call_p (sqRank_ok h) ?_ | refine qG_call (sqRank_ok h) ?_ | refine zG_call (sqRank_ok h) ?_ | refine yG_call (sqRank_ok h) ?_ | refine piG_call (sqRank_ok h) ?_ | refine call_p (sqFile_ok h) ?_ | refine qG_call (sqFile_ok h) ?_ | refine zG_call (sqFile_ok h) ?_ | refine yG_call (sqFile_ok h) ?_ | refine piG_call (sqFile_ok h) ?_ | refine seq_k fun K hK => ?_) | (with_reducible refine hK _ _ ?_; clear hK) | ((with_reducible first | refine gd_dec ?_ ?_ | refine gd_ndec ?_ ?_ | refine qC_dec ?_ ?_ | refine qC_ndec ?_ ?_ | refine piC_dec ?_ ?_ | refine piC_ndec ?_ ?_ | refine zC_dec ?_ ?_ | refine zC_ndec ?_ ?_ | refine zD_dec ?_ ?_ | refine yC_dec ?_ ?_ | refine yC_ndec ?_ ?_ | refine if_dec ?_ ?_ | refine if_ndec ?_ ?_) <;> intro hh) | simp -implicitDefEqProofs (disch := first | omega | assumption) only [go_sem, ↓reduceIte, Nat.reduceEqDiff, Int.reduceEq, Nat.reduceAdd, Nat.reduceSub, Nat.reduceMul, Nat.mul_one, Nat.one_mul, List.length_nil, List.length_cons, List.nil_append, List.cons_append, List.length_append, List.set_cons_zero, List.set_cons_succ, Nat.zero_add, Nat.sub_zero, Option.isNone_none, Option.isNone_some, Int.toNat_natCast, Nat.add_sub_cancel_left, Bool.not_true, Bool.not_false, BitVec.reduceOfInt, Int.reduceToNat] | ((with_reducible first | refine gd_bool ?_ ?_ | refine if_bool ?_ ?_ | refine qC_bool ?_ ?_ | refine piC_bool ?_ ?_ | refine zC_bool ?_ ?_ | refine zD_bool ?_ ?_ | refine yC_bool ?_ ?_) <;> intro hh) | clear hK)
  rfl
theorem pCol_k {k : Nat} (h : k < 12) : pCol ((k : Int) + 1) = 1 + (k : Int) / 6 := by unfold pCol; repeat' split <;> omega
theorem pTyp_k {k : Nat} (h : k < 12) : pTyp ((k : Int) + 1) = (k : Int) % 6 + 1 := by unfold pTyp; split <;> omega
set_option maxHeartbeats 1000000 in
theorem newPiece_ok {t c : Int} (ht : 1 ≤ t ∧ t ≤ 6) (hc : 1 ≤ c ∧ c ≤ 2) : FnP (Tz z) 75 [.int .i8 t, .int .i8 c] (.int .i8 (t + 6 * (c - 1))) := by
  refine ⟨by simp [Pl.int], Pl.int, start [0, 1, 4, 6, 7, 8, 9, 10, 22] Tryz.func75 rfl (by decide) rfl (by kernel_rfl) (by simp [Tryz.f75]) ?_⟩
  simp only [Tryz.f75]
  repeat' (first | (with_reducible first | refine loop (V := [0, 1, 4, 6, 7, 8, 9, 10, 22]) (fun k : Nat => ([(0, .int .i8 t), (1, .int .i8 c), (7, .slice (some ⟨12, z.1, none⟩) 12 12), (8, .int .i64 12), (9, .int .i64 k)], [])) (fun k => k ≤ 12 ∧ (k : Int) ≤ t + 6 * (c - 1) - 1) (fun k => 12 - k) 0 (by kernel_rfl) ?_ ?_ (fun k hk => ?_) | refine call_p (color_ok) ?_ | refine qG_call (color_ok) ?_ | refine zG_call (color_ok) ?_ | refine yG_call (color_ok) ?_ | refine piG_call (color_ok) ?_ | refine call_p (type_ok) ?_ | refine qG_call (type_ok) ?_ | refine zG_call (type_ok) ?_ | refine yG_call (type_ok) ?_ | refine piG_call (type_ok) ?_ | refine seq_k fun K hK => ?_) | (with_reducible refine hK _ _ ?_; clear hK) | ((with_reducible first | refine gd_dec ?_ ?_ | refine gd_ndec ?_ ?_ | refine qC_dec ?_ ?_ | refine qC_ndec ?_ ?_ | refine piC_dec ?_ ?_ | refine piC_ndec ?_ ?_ | refine zC_dec ?_ ?_ | refine zC_ndec ?_ ?_ | refine zD_dec ?_ ?_ | refine yC_dec ?_ ?_ | refine yC_ndec ?_ ?_ | refine if_dec ?_ ?_ | refine if_ndec ?_ ?_) <;> intro hh) | simp -implicitDefEqProofs (disch := first | omega | assumption) only [go_sem, ↓reduceIte, Nat.reduceEqDiff, Int.reduceEq, Nat.reduceAdd, Nat.reduceSub, Nat.reduceMul, Nat.mul_one, Nat.one_mul, List.length_nil, List.length_cons, List.nil_append, List.cons_append, List.length_append, List.set_cons_zero, List.set_cons_succ, Nat.zero_add, Nat.sub_zero, Option.isNone_none, Option.isNone_some, Int.toNat_natCast, Nat.add_sub_cancel_left, Bool.not_true, Bool.not_false, BitVec.reduceOfInt, Int.reduceToNat] | ((with_reducible first | refine gd_bool ?_ ?_ | refine if_bool ?_ ?_ | refine qC_bool ?_ ?_ | refine piC_bool ?_ ?_ | refine zC_bool ?_ ?_ | refine zD_bool ?_ ?_ | refine yC_bool ?_ ?_) <;> intro hh) | clear hK)
  · omega
  · exact VS.sub (by simp [Fr.sub, Fr.get])
  · have e1 := pCol_k (k := k) (by omega)
    have e2 := pTyp_k (k := k) (by omega)
    congr 1; omega
  all_goals
    have e1 := pCol_k (k := k) (by omega)
    have e2 := pTyp_k (k := k) (by omega)
    exact ⟨k + 1, by omega, by omega, VS.sub (by simp [Fr.sub, Fr.get])⟩
def getP (B : Brd) (p : Int) : BitVec 64 := if 1 ≤ p then B.f (p - 1).toNat else 0#64
theorem bbFor_ok (B : Brd) {p : Int} (h : 1 ≤ p ∧ p ≤ 12) : FnR1 (Tz z) 71 (boardL B) 110 [.int .i8 p] (bv (getP B p)) := by
  refine ⟨by simp [Pl.int], boardL_pl B, Pl.int, start [0, 1, 4, 5, 6, 12, 18, 24, 30, 36, 42, 48, 54, 60, 66, 72] Tryz.func71 rfl (by decide) rfl (by kernel_rfl) (by simp [Tryz.f71]) ?_⟩
  simp only [Tryz.f71]
  repeat' (first | with_reducible refine seq_k fun K hK => ?_ | (with_reducible refine hK _ _ ?_; clear hK) | ((with_reducible first | refine gd_dec ?_ ?_ | refine gd_ndec ?_ ?_ | refine qC_dec ?_ ?_ | refine qC_ndec ?_ ?_ | refine piC_dec ?_ ?_ | refine piC_ndec ?_ ?_ | refine zC_dec ?_ ?_ | refine zC_ndec ?_ ?_ | refine zD_dec ?_ ?_ | refine yC_dec ?_ ?_ | refine yC_ndec ?_ ?_ | refine if_dec ?_ ?_ | refine if_ndec ?_ ?_) <;> intro hh) | simp -implicitDefEqProofs (disch := first | omega | assumption) only [go_sem, ↓reduceIte, Nat.reduceEqDiff, Int.reduceEq, Nat.reduceAdd, Nat.reduceSub, Nat.reduceMul, Nat.mul_one, Nat.one_mul, List.length_nil, List.length_cons, List.nil_append, List.cons_append, List.length_append, List.set_cons_zero, List.set_cons_succ, Nat.zero_add, Nat.sub_zero, Option.isNone_none, Option.isNone_some, Int.toNat_natCast, Nat.add_sub_cancel_left, Bool.not_true, Bool.not_false, BitVec.reduceOfInt, Int.reduceToNat] | ((with_reducible first | refine gd_bool ?_ ?_ | refine if_bool ?_ ?_ | refine qC_bool ?_ ?_ | refine piC_bool ?_ ?_ | refine zC_bool ?_ ?_ | refine zD_bool ?_ ?_ | refine yC_bool ?_ ?_) <;> intro hh) | clear hK)
  all_goals first
    | (exfalso; omega)
    | (subst_vars; first | rfl | trivial | exact ⟨rfl, rfl⟩ | exact ⟨rfl, trivial⟩ | exact ⟨trivial, rfl⟩)
    | (have hp : p = 12 := by omega
       subst hp
       first | rfl | trivial | exact ⟨rfl, rfl⟩ | exact ⟨rfl, trivial⟩ | exact ⟨trivial, rfl⟩)
def putP (B : Brd) (p : Int) (x : BitVec 64) : Brd := B.put (p - 1).toNat x
theorem setBB_ok (B : Brd) {p : Int} {x : BitVec 64} (h : 1 ≤ p ∧ p ≤ 12) : FnW1 (Tz z) 74 (boardL B) 110 [.int .i8 p, bv x] (.tuple #[]) (boardL (putP B p x)) := by
  refine ⟨by simp [Pl.int], boardL_pl B, fun _ => by simp, boardL_pl _, start [0, 1, 2, 6, 8, 14, 20, 26, 32, 38, 44, 50, 56, 62, 68, 74] Tryz.func74 rfl (by decide) rfl (by kernel_rfl) (by simp [Tryz.f74]) ?_⟩
  simp only [Tryz.f74]
  repeat' (first | with_reducible refine seq_k fun K hK => ?_ | (with_reducible refine hK _ _ ?_; clear hK) | ((with_reducible first | refine gd_dec ?_ ?_ | refine gd_ndec ?_ ?_ | refine qC_dec ?_ ?_ | refine qC_ndec ?_ ?_ | refine piC_dec ?_ ?_ | refine piC_ndec ?_ ?_ | refine zC_dec ?_ ?_ | refine zC_ndec ?_ ?_ | refine zD_dec ?_ ?_ | refine yC_dec ?_ ?_ | refine yC_ndec ?_ ?_ | refine if_dec ?_ ?_ | refine if_ndec ?_ ?_) <;> intro hh) | simp -implicitDefEqProofs (disch := first | omega | assumption) only [go_sem, ↓reduceIte, Nat.reduceEqDiff, Int.reduceEq, Nat.reduceAdd, Nat.reduceSub, Nat.reduceMul, Nat.mul_one, Nat.one_mul, List.length_nil, List.length_cons, List.nil_append, List.cons_append, List.length_append, List.set_cons_zero, List.set_cons_succ, Nat.zero_add, Nat.sub_zero, Option.isNone_none, Option.isNone_some, Int.toNat_natCast, Nat.add_sub_cancel_left, Bool.not_true, Bool.not_false, BitVec.reduceOfInt, Int.reduceToNat] | ((with_reducible first | refine gd_bool ?_ ?_ | refine if_bool ?_ ?_ | refine qC_bool ?_ ?_ | refine piC_bool ?_ ?_ | refine zC_bool ?_ ?_ | refine zD_bool ?_ ?_ | refine yC_bool ?_ ?_) <;> intro hh) | clear hK)
  all_goals first
    | (exfalso; omega)
    | (subst_vars; first | rfl | trivial | exact ⟨rfl, rfl⟩ | exact ⟨rfl, trivial⟩ | exact ⟨trivial, rfl⟩)
    | (have hp : p = 12 := by omega
       subst hp
       first | rfl | trivial | exact ⟨rfl, rfl⟩ | exact ⟨rfl, trivial⟩ | exact ⟨trivial, rfl⟩)
theorem isOcc_ok (B : Brd) {s : Int} (h : 0 ≤ s ∧ s ≤ 63) : FnR1 (Tz z) 99 (boardL B) 110 [.int .i8 s] (.bool (!occB B.e s)) := by
  refine ⟨by simp [Pl.int], boardL_pl B, Pl.bool, start [0, 1, 4] Tryz.func99 rfl (by decide) rfl (by kernel_rfl) (by simp [Tryz.f99]) ?_⟩
  simp only [Tryz.f99]
  repeat' (first | (with_reducible first | refine call_p (occ_ok h) ?_ | refine qG_call (occ_ok h) ?_ | refine zG_call (occ_ok h) ?_ | refine yG_call (occ_ok h) ?_ | refine piG_call (occ_ok h) ?_ | refine seq_k fun K hK => ?_) | (with_reducible refine hK _ _ ?_; clear hK) | ((with_reducible first | refine gd_dec ?_ ?_ | refine gd_ndec ?_ ?_ | refine qC_dec ?_ ?_ | refine qC_ndec ?_ ?_ | refine piC_dec ?_ ?_ | refine piC_ndec ?_ ?_ | refine zC_dec ?_ ?_ | refine zC_ndec ?_ ?_ | refine zD_dec ?_ ?_ | refine yC_dec ?_ ?_ | refine yC_ndec ?_ ?_ | refine if_dec ?_ ?_ | refine if_ndec ?_ ?_) <;> intro hh) | simp -implicitDefEqProofs (disch := first | omega | assumption) only [go_sem, ↓reduceIte, Nat.reduceEqDiff, Int.reduceEq, Nat.reduceAdd, Nat.reduceSub, Nat.reduceMul, Nat.mul_one, Nat.one_mul, List.length_nil, List.length_cons, List.nil_append, List.cons_append, List.length_append, List.set_cons_zero, List.set_cons_succ, Nat.zero_add, Nat.sub_zero, Option.isNone_none, Option.isNone_some, Int.toNat_natCast, Nat.add_sub_cancel_left, Bool.not_true, Bool.not_false, BitVec.reduceOfInt, Int.reduceToNat] | ((with_reducible first | refine gd_bool ?_ ?_ | refine if_bool ?_ ?_ | refine qC_bool ?_ ?_ | refine piC_bool ?_ ?_ | refine zC_bool ?_ ?_ | refine zD_bool ?_ ?_ | refine yC_bool ?_ ?_) <;> intro hh) | clear hK)
  first | trivial | exact ⟨rfl, rfl⟩ | exact ⟨rfl, trivial⟩
def pieceAt (B : Brd) (s : Int) : Int := match (List.range 12).find? fun k => occB (B.f k) s with
  | some k => (k : Int) + 1
  | none => 0
theorem pieceAt_bd (B : Brd) (s : Int) : 0 ≤ pieceAt B s ∧ pieceAt B s ≤ 12 := by
  unfold pieceAt
  split
  · rename_i k h
    have := List.mem_range.1 (List.mem_of_find?_eq_some h)
    omega
  · omega
theorem pieceAt_some {B : Brd} {s : Int} {k : Nat} (hk : k < 12) (h : occB (B.f k) s = true) (hn : ∀ i, i < k → occB (B.f i) s = false) : pieceAt B s = (k : Int) + 1 := by
  have : (List.range 12).find? (fun k => occB (B.f k) s) = some k := by
    rw [List.find?_range_eq_some]
    exact ⟨h, by simpa using hk, fun j hj => by simp [hn j hj]⟩
  simp [pieceAt, this]
theorem pieceAt_none {B : Brd} {s : Int} (hn : ∀ i, i < 12 → occB (B.f i) s = false) : pieceAt B s = 0 := by
  have : (List.range 12).find? (fun k => occB (B.f k) s) = none := by
    rw [List.find?_eq_none]; intro i hi; simp [hn i (List.mem_range.1 hi)]
  simp [pieceAt, this]
theorem all_lt_succ {p : Nat → Prop} {k : Nat} (h : ∀ i, i < k → p i) (hk : p k) : ∀ i, i < k + 1 → p i := fun i hi => by
  rcases Nat.lt_or_ge i k with h1 | h1
  · exact h i h1
  · rw [show i = k by omega]; exact hk
theorem getP_k (B : Brd) (k : Nat) : getP B ((k : Int) + 1) = B.f k := by
  unfold getP; rw [if_pos (by omega)]; congr 1; omega
set_option maxHeartbeats 1000000 in
theorem piece_ok (B : Brd) {s : Int} (h : 0 ≤ s ∧ s ≤ 63) : FnR1 (Tz z) 48 (boardL B) 110 [.int .i8 s] (.int .i8 (pieceAt B s)) := by
  refine ⟨by simp [Pl.int], boardL_pl B, Pl.int, start [0, 1, 4, 6, 7, 8, 9, 10, 11, 19] Tryz.func48 rfl (by decide) rfl (by kernel_rfl) (by simp [Tryz.f48]) ?_⟩
  simp only [Tryz.f48]
  repeat' (first | (with_reducible first | refine loop (V := [0, 1, 4, 6, 7, 8, 9, 10, 11, 19]) (fun k : Nat => ([(0, .pointer (some ⟨100, 0, none⟩)), (1, .int .i8 s), (8, .slice (some ⟨12, z.1, none⟩) 12 12), (9, .int .i64 12), (10, .int .i64 k)], [.cells (boardL B) 110])) (fun k => k ≤ 12 ∧ ∀ i, i < k → occB (B.f i) s = false) (fun k => 12 - k) 0 (by kernel_rfl) ?_ ?_ (fun k hk => ?_) | refine call_p (occ_ok h) ?_ | refine qG_call (occ_ok h) ?_ | refine zG_call (occ_ok h) ?_ | refine yG_call (occ_ok h) ?_ | refine piG_call (occ_ok h) ?_) | ((with_reducible refine call_r1 (bbFor_ok B (by omega)) ?_ ?_ ?_); (· first | omega | decide); (· first | rfl | assumption | simp; done)) | ((with_reducible refine qG_r1 (bbFor_ok B (by omega)) ?_ ?_ ?_); (· first | omega | decide); (· first | rfl | assumption | simp; done)) | ((with_reducible refine zG_r1 (bbFor_ok B (by omega)) ?_ ?_ ?_); (· first | omega | decide); (· first | rfl | assumption | simp; done)) | with_reducible refine seq_k fun K hK => ?_ | (with_reducible refine hK _ _ ?_; clear hK) | ((with_reducible first | refine gd_dec ?_ ?_ | refine gd_ndec ?_ ?_ | refine qC_dec ?_ ?_ | refine qC_ndec ?_ ?_ | refine piC_dec ?_ ?_ | refine piC_ndec ?_ ?_ | refine zC_dec ?_ ?_ | refine zC_ndec ?_ ?_ | refine zD_dec ?_ ?_ | refine yC_dec ?_ ?_ | refine yC_ndec ?_ ?_ | refine if_dec ?_ ?_ | refine if_ndec ?_ ?_) <;> intro hh) | simp -implicitDefEqProofs (disch := first | omega | assumption) only [go_sem, ↓reduceIte, Nat.reduceEqDiff, Int.reduceEq, Nat.reduceAdd, Nat.reduceSub, Nat.reduceMul, Nat.mul_one, Nat.one_mul, List.length_nil, List.length_cons, List.nil_append, List.cons_append, List.length_append, List.set_cons_zero, List.set_cons_succ, Nat.zero_add, Nat.sub_zero, Option.isNone_none, Option.isNone_some, Int.toNat_natCast, Nat.add_sub_cancel_left, Bool.not_true, Bool.not_false, BitVec.reduceOfInt, Int.reduceToNat] | ((with_reducible first | refine gd_bool ?_ ?_ | refine if_bool ?_ ?_ | refine qC_bool ?_ ?_ | refine piC_bool ?_ ?_ | refine zC_bool ?_ ?_ | refine zD_bool ?_ ?_ | refine yC_bool ?_ ?_) <;> intro hh) | clear hK)
  · exact ⟨by omega, fun i hi => by omega⟩
  · exact VS.sub (by simp [Fr.sub, Fr.get])
  · simp only [getP_k] at *; exact ⟨by rw [pieceAt_some (k := k) (by omega) (by assumption) hk.2], by first | rfl | trivial⟩
  · simp only [getP_k] at *; exact ⟨k + 1, ⟨by omega, all_lt_succ hk.2 (by assumption)⟩, by omega, VS.sub (by simp [Fr.sub, Fr.get])⟩
  · exact ⟨by rw [pieceAt_none fun i hi => hk.2 i (by omega)], by first | rfl | trivial⟩
end Go.Tb
end
section
namespace Go.Tb
open Go Go.Proofs
variable {z : Nat × Nat}
set_option maxRecDepth 20000
theorem hasTag_ok (M : Mv) {g : Int} : FnR1 (Tz z) 40 (mvL M) 60 [.int .u16 g] (.bool (decide (0 < band .u16 g M.tags))) := by
  refine ⟨by simp [Pl.int], mvL_pl M, Pl.bool, start [0, 1, 4] Tryz.func40 rfl (by decide) rfl (by kernel_rfl) (by simp [Tryz.f40]) ?_⟩
  simp only [Tryz.f40]
  repeat' (first | with_reducible refine seq_k fun K hK => ?_ | (with_reducible refine hK _ _ ?_; clear hK) | ((with_reducible first | refine gd_dec ?_ ?_ | refine gd_ndec ?_ ?_ | refine qC_dec ?_ ?_ | refine qC_ndec ?_ ?_ | refine piC_dec ?_ ?_ | refine piC_ndec ?_ ?_ | refine zC_dec ?_ ?_ | refine zC_ndec ?_ ?_ | refine zD_dec ?_ ?_ | refine yC_dec ?_ ?_ | refine yC_ndec ?_ ?_ | refine if_dec ?_ ?_ | refine if_ndec ?_ ?_) <;> intro hh) | simp -implicitDefEqProofs (disch := first | omega | assumption) only [go_sem, ↓reduceIte, Nat.reduceEqDiff, Int.reduceEq, Nat.reduceAdd, Nat.reduceSub, Nat.reduceMul, Nat.mul_one, Nat.one_mul, List.length_nil, List.length_cons, List.nil_append, List.cons_append, List.length_append, List.set_cons_zero, List.set_cons_succ, Nat.zero_add, Nat.sub_zero, Option.isNone_none, Option.isNone_some, Int.toNat_natCast, Nat.add_sub_cancel_left, Bool.not_true, Bool.not_false, BitVec.reduceOfInt, Int.reduceToNat] | ((with_reducible first | refine gd_bool ?_ ?_ | refine if_bool ?_ ?_ | refine qC_bool ?_ ?_ | refine piC_bool ?_ ?_ | refine zC_bool ?_ ?_ | refine zD_bool ?_ ?_ | refine yC_bool ?_ ?_) <;> intro hh) | clear hK)
  first | trivial | exact ⟨rfl, rfl⟩ | exact ⟨rfl, trivial⟩
theorem addTag_ok (M : Mv) {g : Int} : FnW1 (Tz z) 90 (mvL M) 60 [.int .u16 g] (.tuple #[]) (mvL { M with tags := bor .u16 M.tags g }) := by
  refine ⟨by simp [Pl.int], mvL_pl M, fun _ => by simp, mvL_pl _, start [0, 1] Tryz.func90 rfl (by decide) rfl (by kernel_rfl) (by simp [Tryz.f90]) ?_⟩
  simp only [Tryz.f90]
  repeat' (first | with_reducible refine seq_k fun K hK => ?_ | (with_reducible refine hK _ _ ?_; clear hK) | ((with_reducible first | refine gd_dec ?_ ?_ | refine gd_ndec ?_ ?_ | refine qC_dec ?_ ?_ | refine qC_ndec ?_ ?_ | refine piC_dec ?_ ?_ | refine piC_ndec ?_ ?_ | refine zC_dec ?_ ?_ | refine zC_ndec ?_ ?_ | refine zD_dec ?_ ?_ | refine yC_dec ?_ ?_ | refine yC_ndec ?_ ?_ | refine if_dec ?_ ?_ | refine if_ndec ?_ ?_) <;> intro hh) | simp -implicitDefEqProofs (disch := first | omega | assumption) only [go_sem, ↓reduceIte, Nat.reduceEqDiff, Int.reduceEq, Nat.reduceAdd, Nat.reduceSub, Nat.reduceMul, Nat.mul_one, Nat.one_mul, List.length_nil, List.length_cons, List.nil_append, List.cons_append, List.length_append, List.set_cons_zero, List.set_cons_succ, Nat.zero_add, Nat.sub_zero, Option.isNone_none, Option.isNone_some, Int.toNat_natCast, Nat.add_sub_cancel_left, Bool.not_true, Bool.not_false, BitVec.reduceOfInt, Int.reduceToNat] | ((with_reducible first | refine gd_bool ?_ ?_ | refine if_bool ?_ ?_ | refine qC_bool ?_ ?_ | refine piC_bool ?_ ?_ | refine zC_bool ?_ ?_ | refine zD_bool ?_ ?_ | refine yC_bool ?_ ?_) <;> intro hh) | clear hK)
  first | trivial | exact ⟨rfl, rfl⟩ | exact ⟨rfl, trivial⟩
theorem s1_ok (M : Mv) : FnR1 (Tz z) 43 (mvL M) 60 [] (.int .i8 M.s1) := by
  refine ⟨by simp, mvL_pl M, Pl.int, start [0, 2] Tryz.func43 rfl (by decide) rfl (by kernel_rfl) (by simp [Tryz.f43]) ?_⟩
  simp only [Tryz.f43]
  repeat' (first | with_reducible refine seq_k fun K hK => ?_ | (with_reducible refine hK _ _ ?_; clear hK) | ((with_reducible first | refine gd_dec ?_ ?_ | refine gd_ndec ?_ ?_ | refine qC_dec ?_ ?_ | refine qC_ndec ?_ ?_ | refine piC_dec ?_ ?_ | refine piC_ndec ?_ ?_ | refine zC_dec ?_ ?_ | refine zC_ndec ?_ ?_ | refine zD_dec ?_ ?_ | refine yC_dec ?_ ?_ | refine yC_ndec ?_ ?_ | refine if_dec ?_ ?_ | refine if_ndec ?_ ?_) <;> intro hh) | simp -implicitDefEqProofs (disch := first | omega | assumption) only [go_sem, ↓reduceIte, Nat.reduceEqDiff, Int.reduceEq, Nat.reduceAdd, Nat.reduceSub, Nat.reduceMul, Nat.mul_one, Nat.one_mul, List.length_nil, List.length_cons, List.nil_append, List.cons_append, List.length_append, List.set_cons_zero, List.set_cons_succ, Nat.zero_add, Nat.sub_zero, Option.isNone_none, Option.isNone_some, Int.toNat_natCast, Nat.add_sub_cancel_left, Bool.not_true, Bool.not_false, BitVec.reduceOfInt, Int.reduceToNat] | ((with_reducible first | refine gd_bool ?_ ?_ | refine if_bool ?_ ?_ | refine qC_bool ?_ ?_ | refine piC_bool ?_ ?_ | refine zC_bool ?_ ?_ | refine zD_bool ?_ ?_ | refine yC_bool ?_ ?_) <;> intro hh) | clear hK)
  first | trivial | exact ⟨rfl, rfl⟩ | exact ⟨rfl, trivial⟩
theorem s2_ok (M : Mv) : FnR1 (Tz z) 44 (mvL M) 60 [] (.int .i8 M.s2) := by
  refine ⟨by simp, mvL_pl M, Pl.int, start [0, 2] Tryz.func44 rfl (by decide) rfl (by kernel_rfl) (by simp [Tryz.f44]) ?_⟩
  simp only [Tryz.f44]
  repeat' (first | with_reducible refine seq_k fun K hK => ?_ | (with_reducible refine hK _ _ ?_; clear hK) | ((with_reducible first | refine gd_dec ?_ ?_ | refine gd_ndec ?_ ?_ | refine qC_dec ?_ ?_ | refine qC_ndec ?_ ?_ | refine piC_dec ?_ ?_ | refine piC_ndec ?_ ?_ | refine zC_dec ?_ ?_ | refine zC_ndec ?_ ?_ | refine zD_dec ?_ ?_ | refine yC_dec ?_ ?_ | refine yC_ndec ?_ ?_ | refine if_dec ?_ ?_ | refine if_ndec ?_ ?_) <;> intro hh) | simp -implicitDefEqProofs (disch := first | omega | assumption) only [go_sem, ↓reduceIte, Nat.reduceEqDiff, Int.reduceEq, Nat.reduceAdd, Nat.reduceSub, Nat.reduceMul, Nat.mul_one, Nat.one_mul, List.length_nil, List.length_cons, List.nil_append, List.cons_append, List.length_append, List.set_cons_zero, List.set_cons_succ, Nat.zero_add, Nat.sub_zero, Option.isNone_none, Option.isNone_some, Int.toNat_natCast, Nat.add_sub_cancel_left, Bool.not_true, Bool.not_false, BitVec.reduceOfInt, Int.reduceToNat] | ((with_reducible first | refine gd_bool ?_ ?_ | refine if_bool ?_ ?_ | refine qC_bool ?_ ?_ | refine piC_bool ?_ ?_ | refine zC_bool ?_ ?_ | refine zD_bool ?_ ?_ | refine yC_bool ?_ ?_) <;> intro hh) | clear hK)
  first | trivial | exact ⟨rfl, rfl⟩ | exact ⟨rfl, trivial⟩
theorem promo_ok (M : Mv) : FnR1 (Tz z) 41 (mvL M) 60 [] (.int .i8 M.promo) := by
  refine ⟨by simp, mvL_pl M, Pl.int, start [0, 2] Tryz.func41 rfl (by decide) rfl (by kernel_rfl) (by simp [Tryz.f41]) ?_⟩
  simp only [Tryz.f41]
  repeat' (first | with_reducible refine seq_k fun K hK => ?_ | (with_reducible refine hK _ _ ?_; clear hK) | ((with_reducible first | refine gd_dec ?_ ?_ | refine gd_ndec ?_ ?_ | refine qC_dec ?_ ?_ | refine qC_ndec ?_ ?_ | refine piC_dec ?_ ?_ | refine piC_ndec ?_ ?_ | refine zC_dec ?_ ?_ | refine zC_ndec ?_ ?_ | refine zD_dec ?_ ?_ | refine yC_dec ?_ ?_ | refine yC_ndec ?_ ?_ | refine if_dec ?_ ?_ | refine if_ndec ?_ ?_) <;> intro hh) | simp -implicitDefEqProofs (disch := first | omega | assumption) only [go_sem, ↓reduceIte, Nat.reduceEqDiff, Int.reduceEq, Nat.reduceAdd, Nat.reduceSub, Nat.reduceMul, Nat.mul_one, Nat.one_mul, List.length_nil, List.length_cons, List.nil_append, List.cons_append, List.length_append, List.set_cons_zero, List.set_cons_succ, Nat.zero_add, Nat.sub_zero, Option.isNone_none, Option.isNone_some, Int.toNat_natCast, Nat.add_sub_cancel_left, Bool.not_true, Bool.not_false, BitVec.reduceOfInt, Int.reduceToNat] | ((with_reducible first | refine gd_bool ?_ ?_ | refine if_bool ?_ ?_ | refine qC_bool ?_ ?_ | refine piC_bool ?_ ?_ | refine zC_bool ?_ ?_ | refine zD_bool ?_ ?_ | refine yC_bool ?_ ?_) <;> intro hh) | clear hK)
  first | trivial | exact ⟨rfl, rfl⟩ | exact ⟨rfl, trivial⟩
theorem turn_ok (D : Pd) (B : Brd) : FnR2 (Tz z) 83 D B [] (.int .i8 D.turn) := by
  refine ⟨by simp, Pl.int, start [0, 2] Tryz.func83 rfl (by decide) rfl (by kernel_rfl) (by simp [Tryz.f83]) ?_⟩
  simp only [Tryz.f83]
  repeat' (first | with_reducible refine seq_k fun K hK => ?_ | (with_reducible refine hK _ _ ?_; clear hK) | ((with_reducible first | refine gd_dec ?_ ?_ | refine gd_ndec ?_ ?_ | refine qC_dec ?_ ?_ | refine qC_ndec ?_ ?_ | refine piC_dec ?_ ?_ | refine piC_ndec ?_ ?_ | refine zC_dec ?_ ?_ | refine zC_ndec ?_ ?_ | refine zD_dec ?_ ?_ | refine yC_dec ?_ ?_ | refine yC_ndec ?_ ?_ | refine if_dec ?_ ?_ | refine if_ndec ?_ ?_) <;> intro hh) | simp -implicitDefEqProofs (disch := first | omega | assumption) only [go_sem, ↓reduceIte, Nat.reduceEqDiff, Int.reduceEq, Nat.reduceAdd, Nat.reduceSub, Nat.reduceMul, Nat.mul_one, Nat.one_mul, List.length_nil, List.length_cons, List.nil_append, List.cons_append, List.length_append, List.set_cons_zero, List.set_cons_succ, Nat.zero_add, Nat.sub_zero, Option.isNone_none, Option.isNone_some, Int.toNat_natCast, Nat.add_sub_cancel_left, Bool.not_true, Bool.not_false, BitVec.reduceOfInt, Int.reduceToNat] | ((with_reducible first | refine gd_bool ?_ ?_ | refine if_bool ?_ ?_ | refine qC_bool ?_ ?_ | refine piC_bool ?_ ?_ | refine zC_bool ?_ ?_ | refine zD_bool ?_ ?_ | refine yC_bool ?_ ?_) <;> intro hh) | clear hK)
  first | trivial | exact ⟨rfl, rfl⟩ | exact ⟨rfl, trivial⟩
def pawnB (D : Pd) (B : Brd) (s : Int) : BitVec 64 :=
  let x := sqB s
  let e := if D.ep = -1 then 0#64 else sqB D.ep
  if D.turn = 1 then
    let u := ((x &&& 18446744073709551360#64) >>> 8) &&& B.e
    ((x &&& 18374403900871474942#64 &&& 18446744073709551360#64) >>> 9 &&& (B.b ||| e)) ||| ((x &&& 9187201950435737471#64 &&& 18446744073709551360#64) >>> 7 &&& (B.b ||| e)) ||| u ||| ((u &&& 280375465082880#64) >>> 8 &&& B.e)
  else
    let u := ((x &&& 72057594037927935#64) <<< 8) &&& B.e
    ((x &&& 18374403900871474942#64 &&& 72057594037927935#64) <<< 7 &&& (B.w ||| e)) ||| ((x &&& 9187201950435737471#64 &&& 72057594037927935#64) <<< 9 &&& (B.w ||| e)) ||| u ||| ((u &&& 16711680#64) <<< 8 &&& B.e)
set_option maxHeartbeats 1000000 in
theorem pawn_ok (D : Pd) (B : Brd) {s : Int} (h : 0 ≤ s ∧ s ≤ 63) (he : -1 ≤ D.ep ∧ D.ep ≤ 63) (ht : D.turn = 1 ∨ D.turn = 2) : FnR2 (Tz z) 98 D B [.int .i8 s] (bv (pawnB D B s)) := by
  refine ⟨by simp [Pl.int], Pl.int, start [0, 1, 4, 5, 6, 7, 8, 9, 10, 11, 12, 13, 14, 21, 29] Tryz.func98 rfl (by decide) rfl (by kernel_rfl) (by simp [Tryz.f98]) ?_⟩
  simp only [Tryz.f98]
  repeat' (first | (with_reducible first | refine call_p (bbSq_ok (by omega)) ?_ | refine qG_call (bbSq_ok (by omega)) ?_ | refine zG_call (bbSq_ok (by omega)) ?_ | refine yG_call (bbSq_ok (by omega)) ?_ | refine piG_call (bbSq_ok (by omega)) ?_) | ((with_reducible refine call_r2 101 (turn_ok D B) ?_ ?_ ?_ ?_ ?_ ?_); (· first | omega | decide); (· first | rfl | assumption | simp; done); (· first | omega | decide); (· first | rfl | assumption | simp; done); (· first | omega | decide)) | ((with_reducible refine qG_r2 101 (turn_ok D B) ?_ ?_ ?_ ?_ ?_ ?_); (· first | omega | decide); (· first | rfl | assumption | simp; done); (· first | omega | decide); (· first | rfl | assumption | simp; done); (· first | omega | decide)) | ((with_reducible refine zG_r2 101 (turn_ok D B) ?_ ?_ ?_ ?_ ?_ ?_); (· first | omega | decide); (· first | rfl | assumption | simp; done); (· first | omega | decide); (· first | rfl | assumption | simp; done); (· first | omega | decide)) | with_reducible refine seq_k fun K hK => ?_ | (with_reducible refine hK _ _ ?_; clear hK) | ((with_reducible first | refine gd_dec ?_ ?_ | refine gd_ndec ?_ ?_ | refine qC_dec ?_ ?_ | refine qC_ndec ?_ ?_ | refine piC_dec ?_ ?_ | refine piC_ndec ?_ ?_ | refine zC_dec ?_ ?_ | refine zC_ndec ?_ ?_ | refine zD_dec ?_ ?_ | refine yC_dec ?_ ?_ | refine yC_ndec ?_ ?_ | refine if_dec ?_ ?_ | refine if_ndec ?_ ?_) <;> intro hh) | simp -implicitDefEqProofs (disch := first | omega | assumption) only [go_sem, ↓reduceIte, Nat.reduceEqDiff, Int.reduceEq, Nat.reduceAdd, Nat.reduceSub, Nat.reduceMul, Nat.mul_one, Nat.one_mul, List.length_nil, List.length_cons, List.nil_append, List.cons_append, List.length_append, List.set_cons_zero, List.set_cons_succ, Nat.zero_add, Nat.sub_zero, Option.isNone_none, Option.isNone_some, Int.toNat_natCast, Nat.add_sub_cancel_left, Bool.not_true, Bool.not_false, BitVec.reduceOfInt, Int.reduceToNat] | ((with_reducible first | refine gd_bool ?_ ?_ | refine if_bool ?_ ?_ | refine qC_bool ?_ ?_ | refine piC_bool ?_ ?_ | refine zC_bool ?_ ?_ | refine zD_bool ?_ ?_ | refine yC_bool ?_ ?_) <;> intro hh) | clear hK)
  all_goals (refine ⟨?_, by first | rfl | trivial⟩; simp [pawnB, *])
def pmB (D : Pd) (B : Brd) (t s : Int) : BitVec 64 :=
  if t = 1 then tabB bbKingMoves s.toNat else if t = 2 then diaB (~~~B.e) s ||| hvB (~~~B.e) s else if t = 3 then hvB (~~~B.e) s else if t = 4 then diaB (~~~B.e) s else if t = 5 then tabB bbKnightMoves s.toNat else if t = 6 then pawnB D B s else 0#64
set_option maxHeartbeats 1000000 in
theorem possible_ok (D : Pd) (B : Brd) {t s : Int} (h : 0 ≤ s ∧ s ≤ 63) (he : -1 ≤ D.ep ∧ D.ep ≤ 63) (ht : D.turn = 1 ∨ D.turn = 2) : FnR2 (Tz z) 86 D B [.int .i8 t, .int .i8 s] (bv (pmB D B t s)) := by
  refine ⟨by simp [Pl.int], Pl.int, start [0, 1, 2, 6, 7, 8, 13, 36, 48, 60, 65] Tryz.func86 rfl (by decide) rfl (by kernel_rfl) (by simp [Tryz.f86]) ?_⟩
  simp only [Tryz.f86]
  repeat' (first | (with_reducible first | refine draw (by kernel_rfl) (by kernel_rfl) ?_ | apply pz_e | apply pz_eg | apply py_e | refine call_p (dia_ok h) ?_ | refine qG_call (dia_ok h) ?_ | refine zG_call (dia_ok h) ?_ | refine yG_call (dia_ok h) ?_ | refine piG_call (dia_ok h) ?_ | refine call_p (hv_ok h) ?_ | refine qG_call (hv_ok h) ?_ | refine zG_call (hv_ok h) ?_ | refine yG_call (hv_ok h) ?_ | refine piG_call (hv_ok h) ?_) | ((with_reducible refine call_r2 101 (pawn_ok D B h he ht) ?_ ?_ ?_ ?_ ?_ ?_); (· first | omega | decide); (· first | rfl | assumption | simp; done); (· first | omega | decide); (· first | rfl | assumption | simp; done); (· first | omega | decide)) | ((with_reducible refine qG_r2 101 (pawn_ok D B h he ht) ?_ ?_ ?_ ?_ ?_ ?_); (· first | omega | decide); (· first | rfl | assumption | simp; done); (· first | omega | decide); (· first | rfl | assumption | simp; done); (· first | omega | decide)) | ((with_reducible refine zG_r2 101 (pawn_ok D B h he ht) ?_ ?_ ?_ ?_ ?_ ?_); (· first | omega | decide); (· first | rfl | assumption | simp; done); (· first | omega | decide); (· first | rfl | assumption | simp; done); (· first | omega | decide)) | with_reducible refine seq_k fun K hK => ?_ | (with_reducible refine hK _ _ ?_; clear hK) | ((with_reducible first | refine gd_dec ?_ ?_ | refine gd_ndec ?_ ?_ | refine qC_dec ?_ ?_ | refine qC_ndec ?_ ?_ | refine piC_dec ?_ ?_ | refine piC_ndec ?_ ?_ | refine zC_dec ?_ ?_ | refine zC_ndec ?_ ?_ | refine zD_dec ?_ ?_ | refine yC_dec ?_ ?_ | refine yC_ndec ?_ ?_ | refine if_dec ?_ ?_ | refine if_ndec ?_ ?_) <;> intro hh) | simp -implicitDefEqProofs (disch := first | omega | assumption) only [go_sem, ↓reduceIte, Nat.reduceEqDiff, Int.reduceEq, Nat.reduceAdd, Nat.reduceSub, Nat.reduceMul, Nat.mul_one, Nat.one_mul, List.length_nil, List.length_cons, List.nil_append, List.cons_append, List.length_append, List.set_cons_zero, List.set_cons_succ, Nat.zero_add, Nat.sub_zero, Option.isNone_none, Option.isNone_some, Int.toNat_natCast, Nat.add_sub_cancel_left, Bool.not_true, Bool.not_false, BitVec.reduceOfInt, Int.reduceToNat] | ((with_reducible first | refine gd_bool ?_ ?_ | refine if_bool ?_ ?_ | refine qC_bool ?_ ?_ | refine piC_bool ?_ ?_ | refine zC_bool ?_ ?_ | refine zD_bool ?_ ?_ | refine yC_bool ?_ ?_) <;> intro hh) | clear hK)
  all_goals (refine ⟨?_, by first | rfl | trivial⟩; simp [pmB, *])
end Go.Tb
end
section
namespace Go.Tb
open Go Go.Proofs
variable {z : Nat × Nat}
set_option maxRecDepth 20000
theorem i8s_pl (l : List Int) : ∀ v ∈ i8s l, Pl v := by
  intro v hv; simp only [i8s, List.mem_map] at hv; obtain ⟨_, _, rfl⟩ := hv; exact Pl.int
theorem i8s_len (l : List Int) : (i8s l).length = l.length := by simp [i8s]
def pawnA (B : Brd) (t : Int) : BitVec 64 :=
  if t = 1 then (B.bp &&& 18374403900871474942#64 &&& 72057594037927935#64) <<< 7 ||| (B.bp &&& 9187201950435737471#64 &&& 72057594037927935#64) <<< 9
  else (B.wp &&& 18374403900871474942#64 &&& 18446744073709551360#64) >>> 9 ||| (B.wp &&& 9187201950435737471#64 &&& 18446744073709551360#64) >>> 7
def attS (B : Brd) (t s : Int) : Bool :=
  let o := ~~~B.e
  let opp := if t = 2 then B.w else B.b
  let oc := cOther t
  !decide ((diaB o s ||| hvB o s) &&& opp ||| tabB bbKnightMoves s.toNat &&& opp = 0#64) &&
    (!decide ((diaB o s ||| hvB o s) &&& getP B (2 + 6 * (oc - 1)) = 0#64) || !decide (hvB o s &&& getP B (3 + 6 * (oc - 1)) = 0#64) || !decide (diaB o s &&& getP B (4 + 6 * (oc - 1)) = 0#64) ||
      !decide (tabB bbKnightMoves s.toNat &&& getP B (5 + 6 * (oc - 1)) = 0#64) || !decide (pawnA B t &&& sqB s = 0#64) || !decide (tabB bbKingMoves s.toNat &&& getP B (1 + 6 * (oc - 1)) = 0#64))
theorem cOther_bd {t : Int} (h : t = 1 ∨ t = 2) : 1 ≤ cOther t ∧ cOther t ≤ 2 := by rcases h with rfl | rfl <;> decide
theorem any_no {n : Nat} {p : Nat → Bool} (h : ∀ i, i < n → p i = false) : (List.range n).any p = false := by
  rw [List.any_eq_false]; intro i hi; simp [h i (List.mem_range.1 hi)]
theorem any_yes {n k : Nat} {p : Nat → Bool} (hk : k < n) (h : p k = true) : (List.range n).any p = true := List.any_eq_true.2 ⟨k, List.mem_range.2 hk, h⟩
set_option maxHeartbeats 4000000 in
theorem att_ok (D : Pd) (B : Brd) (ss : List Int) (hss : ∀ k, 0 ≤ i8C ss k ∧ i8C ss k ≤ 63) (hl : ss.length ≤ 64) (ht : D.turn = 1 ∨ D.turn = 2) :
    FnR (Tz z) 84 [.pointer (some ⟨100, 0, none⟩), .slice (some ⟨102, 0, none⟩) ss.length ss.length] [.cells (psL 101 nilS D) 82, .cells (boardL B) 110, .cells (i8s ss) 57] (.bool ((List.range ss.length).any fun i => attS B D.turn (i8C ss i))) := by
  refine ⟨?_, ?_, Pl.bool.wf _, start [0, 1, 4, 5, 6, 8, 9, 10, 11, 12, 13, 14, 15, 16, 17, 18, 19, 31, 32, 33, 34, 46, 69, 87, 101, 115, 129, 132, 160, 188, 202] Tryz.func84 rfl (by decide) rfl (by kernel_rfl) (by simp [Tryz.f84]) ?_⟩
  · intro u hu
    simp only [List.mem_cons, List.not_mem_nil, or_false] at hu
    rcases hu with rfl | rfl
    · exact WF_ptrN (by simp)
    · exact fun ρ ρ' e => by simp [e 102 (by simp)]
  · intro o ho
    simp only [List.mem_cons, List.not_mem_nil, or_false] at ho
    rcases ho with rfl | rfl | rfl
    · exact psL_wf (by simp) (Pl.nilS.wf _)
    · exact fun u hu => (boardL_pl B u hu).wf _
    · exact fun u hu => (i8s_pl ss u hu).wf _
  simp only [Tryz.f84]
  have ho := cOther_bd ht
  repeat' (first | (with_reducible first | refine draw (by kernel_rfl) (by kernel_rfl) ?_ | apply pz_e | apply pz_eg | apply py_e | refine loop (V := [0, 1, 4, 5, 6, 8, 9, 10, 11, 12, 13, 14, 15, 16, 17, 18, 19, 31, 32, 33, 34, 46, 69, 87, 101, 115, 129, 132, 160, 188, 202]) (fun k : Nat => ([(0, .pointer (some ⟨100, 0, none⟩)), (5, .int .i8 (cOther D.turn)), (6, bv (~~~B.e)), (31, .slice (some ⟨102, 0, none⟩) ss.length ss.length), (32, .int .i64 ss.length), (33, .int .i64 k)], [.cells (psL 101 nilS D) 82, .cells (boardL B) 110, .cells (i8s ss) 57])) (fun k => k ≤ ss.length ∧ ∀ i, i < k → attS B D.turn (i8C ss i) = false) (fun k => ss.length - k) 0 (by kernel_rfl) ?_ ?_ (fun k hk => (fun hb => ?_) (hss k))) | ((with_reducible refine call_r2 101 (turn_ok D B) ?_ ?_ ?_ ?_ ?_ ?_); (· first | omega | decide); (· first | rfl | assumption | simp; done); (· first | omega | decide); (· first | rfl | assumption | simp; done); (· first | omega | decide)) | ((with_reducible refine qG_r2 101 (turn_ok D B) ?_ ?_ ?_ ?_ ?_ ?_); (· first | omega | decide); (· first | rfl | assumption | simp; done); (· first | omega | decide); (· first | rfl | assumption | simp; done); (· first | omega | decide)) | ((with_reducible refine zG_r2 101 (turn_ok D B) ?_ ?_ ?_ ?_ ?_ ?_); (· first | omega | decide); (· first | rfl | assumption | simp; done); (· first | omega | decide); (· first | rfl | assumption | simp; done); (· first | omega | decide)) | (with_reducible first | refine call_p (other_ok) ?_ | refine qG_call (other_ok) ?_ | refine zG_call (other_ok) ?_ | refine yG_call (other_ok) ?_ | refine piG_call (other_ok) ?_ | refine call_p (dia_ok hb) ?_ | refine qG_call (dia_ok hb) ?_ | refine zG_call (dia_ok hb) ?_ | refine yG_call (dia_ok hb) ?_ | refine piG_call (dia_ok hb) ?_ | refine call_p (hv_ok hb) ?_ | refine qG_call (hv_ok hb) ?_ | refine zG_call (hv_ok hb) ?_ | refine yG_call (hv_ok hb) ?_ | refine piG_call (hv_ok hb) ?_ | refine call_p (newPiece_ok (by omega) (by omega)) ?_ | refine qG_call (newPiece_ok (by omega) (by omega)) ?_ | refine zG_call (newPiece_ok (by omega) (by omega)) ?_ | refine yG_call (newPiece_ok (by omega) (by omega)) ?_ | refine piG_call (newPiece_ok (by omega) (by omega)) ?_) | ((with_reducible refine call_r1 (bbFor_ok B (by omega)) ?_ ?_ ?_); (· first | omega | decide); (· first | rfl | assumption | simp; done)) | ((with_reducible refine qG_r1 (bbFor_ok B (by omega)) ?_ ?_ ?_); (· first | omega | decide); (· first | rfl | assumption | simp; done)) | ((with_reducible refine zG_r1 (bbFor_ok B (by omega)) ?_ ?_ ?_); (· first | omega | decide); (· first | rfl | assumption | simp; done)) | (with_reducible first | refine call_p (bbSq_ok hb) ?_ | refine qG_call (bbSq_ok hb) ?_ | refine zG_call (bbSq_ok hb) ?_ | refine yG_call (bbSq_ok hb) ?_ | refine piG_call (bbSq_ok hb) ?_ | refine seq_k fun K hK => ?_) | (with_reducible refine hK _ _ ?_; clear hK) | ((with_reducible first | refine gd_dec ?_ ?_ | refine gd_ndec ?_ ?_ | refine qC_dec ?_ ?_ | refine qC_ndec ?_ ?_ | refine piC_dec ?_ ?_ | refine piC_ndec ?_ ?_ | refine zC_dec ?_ ?_ | refine zC_ndec ?_ ?_ | refine zD_dec ?_ ?_ | refine yC_dec ?_ ?_ | refine yC_ndec ?_ ?_ | refine if_dec ?_ ?_ | refine if_ndec ?_ ?_) <;> intro hh) | simp -implicitDefEqProofs (disch := first | omega | assumption) only [go_sem, ↓reduceIte, Nat.reduceEqDiff, Int.reduceEq, Nat.reduceAdd, Nat.reduceSub, Nat.reduceMul, Nat.mul_one, Nat.one_mul, List.length_nil, List.length_cons, List.nil_append, List.cons_append, List.length_append, List.set_cons_zero, List.set_cons_succ, Nat.zero_add, Nat.sub_zero, Option.isNone_none, Option.isNone_some, Int.toNat_natCast, Nat.add_sub_cancel_left, Bool.not_true, Bool.not_false, BitVec.reduceOfInt, Int.reduceToNat, i8_get, i8s_len] | ((with_reducible first | refine gd_bool ?_ ?_ | refine if_bool ?_ ?_ | refine qC_bool ?_ ?_ | refine piC_bool ?_ ?_ | refine zC_bool ?_ ?_ | refine zD_bool ?_ ?_ | refine yC_bool ?_ ?_) <;> intro hh) | clear hK)
  all_goals first
    | exact ⟨by omega, fun i hi => by omega⟩
    | (exact VS.sub (by simp [Fr.sub, Fr.get]))
    | (refine ⟨?_, by first | rfl | trivial⟩; congr 1; refine (any_yes (k := k) (by omega) ?_).symm; (first | (have ht1 : D.turn = 1 := (by omega); simp_all only [attS, pawnA, Int.reduceEq, ↓reduceIte, decide_true, decide_false, Bool.not_true, Bool.not_false, Bool.true_and, Bool.and_true, Bool.true_or, Bool.or_true, Bool.false_or, Bool.or_false, Bool.and_self, Bool.false_and, Bool.or_self, Bool.and_false, not_true, not_false_iff]; done) | (simp_all only [attS, pawnA, Int.reduceEq, ↓reduceIte, decide_true, decide_false, Bool.not_true, Bool.not_false, Bool.true_and, Bool.and_true, Bool.true_or, Bool.or_true, Bool.false_or, Bool.or_false, Bool.and_self, Bool.false_and, Bool.or_self, Bool.and_false, not_true, not_false_iff]; done)))
    | (refine ⟨k + 1, ⟨by omega, all_lt_succ hk.2 ?_⟩, by omega, VS.sub (by simp [Fr.sub, Fr.get])⟩; (first | (have ht1 : D.turn = 1 := (by omega); simp_all only [attS, pawnA, Int.reduceEq, ↓reduceIte, decide_true, decide_false, Bool.not_true, Bool.not_false, Bool.true_and, Bool.and_true, Bool.true_or, Bool.or_true, Bool.false_or, Bool.or_false, Bool.and_self, Bool.false_and, Bool.or_self, Bool.and_false, not_true, not_false_iff]; done) | (simp_all only [attS, pawnA, Int.reduceEq, ↓reduceIte, decide_true, decide_false, Bool.not_true, Bool.not_false, Bool.true_and, Bool.and_true, Bool.true_or, Bool.or_true, Bool.false_or, Bool.or_false, Bool.and_self, Bool.false_and, Bool.or_self, Bool.and_false, not_true, not_false_iff]; done)))
    | (refine ⟨?_, by first | rfl | trivial⟩; congr 1; refine (any_no fun i hi => hk.2 i (by omega)).symm; done)
    | skip
end Go.Tb
end
