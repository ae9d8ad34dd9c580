/-
  A part of the proof (my own): of the texts that the claim's last text rests on: parts J4, O2, O3, O4, P19, P20, Q1, Q2.
-/
import Derived.Test.YtigjokkakcmmdaaGreatDoorTie
import Derived.Test.YtigjokkakcmmdaaGreatDoorCards
import Derived.ProofKit
import Derived.OpenShut
import Derived.LaidMore
import Derived.Lay
import Derived.SevenTiedAt
import Derived.Stop.Joined
import Derived.ChangeSame
import Derived.RowKit
import Derived.Lib.LaidU8
import Derived.Test.YtigjokkakcmmdaaGreatDoorT27
import Derived.Test.YtigjokkakcmmdaaGreatDoorT09
import Derived.Test.YtigjokkakcmmdaaGreatDoorT26
set_option linter.unusedSimpArgs false
set_option linter.unusedVariables false
section
namespace Go.Tb
open Go Go.Proofs
variable {z : Nat × Nat}
set_option maxRecDepth 20000
attribute [local irreducible] legL madeM tallyF zeroF in
set_option maxHeartbeats 8000000 in
theorem Tally_ok (d : Nat) (hd : d ≤ 100) (c : Nat → Int) (w : Int) (hpd : PosD (d + 1) c) (hw0 : 0 ≤ w) (hw1 : w ≤ 6000) :
    FnM (Tz z) 19 [posV c, .int .i64 ((d + 1 : Nat) : Int), .pointer (some ⟨100, 0, none⟩)] [.cells [.int .i64 w] 3] (fun _ : Unit => True)
    (fun _ => .tuple [.agg (ints .i64 8 (tallyF (d + 1) c w).1).toArray, .bool (tallyF (d + 1) c w).2.1].toArray) (fun _ => [.cells [.int .i64 (tallyF (d + 1) c w).2.2] 3]) := by
  have hc := hpd.ok
  refine ⟨?_, ?_, fun _ _ o ho => by simp at ho, CallM.shiftX (start [0, 1, 2, 3, 6, 7, 9] Tryz.func19 rfl (by decide) rfl (by kernel_rfl) (by simp [Tryz.f19]) ?_)⟩
  · intro u hu
    simp only [List.mem_cons, List.not_mem_nil, or_false] at hu
    rcases hu with rfl | rfl | rfl
    · exact (posV_pl c).wf _
    · exact wf_int
    · exact wf_pt (by simp)
  · intro o ho
    simp only [List.mem_cons, List.not_mem_nil, or_false] at ho
    subst ho; exact plW (pl_int1 w)
  simp only [Tryz.f19]
  unfold posV
  repeat' (first | with_reducible refine seq_i (a := Code.seq (Code.region 1 _ _) _) [(1, .int .i64 ((d + 1 : Nat) : Int)), (2, .pointer (some ⟨100, 0, none⟩)), (3, .pointer (some ⟨101, 0, none⟩)), (6, .pointer (some ⟨102, 0, none⟩))] [.cells [.int .i64 w] 3, .cells (ints .i64 69 c) 24, .cells (ints .i64 8 zeroF) 28, .any] ?_ (fun K hJ => ?_) | (with_reducible refine hJ _ _ ?_; clear hJ) | ((with_reducible refine piE_fr (legal_ok c hc) [] ?_ ?_ ?_ ?_); (· kernel_rfl); (· exact trivial); (· rfl); intro xx hx; rcases xx with _ | ⟨tl9, cap9⟩ <;> ((first | simp only [fix_sl0, slH_none, rl_slice0] | simp only [fix_sl (con := msL (legL c)) (pl_app (msL_pl _) hx.2.2.2), slH_some, rl_slS, List.length_cons, List.length_nil, Nat.zero_add, Nat.reduceAdd, List.cons_append, List.nil_append]); (with_reducible refine And.intro ?_ ?_); (· (simp -implicitDefEqProofs (disch := first | omega | assumption) only [chk_nil, chk_cons, pend_nil, pend_cons, obl_q, onQ_v, and_true, sub_ints, go_sem, ↓reduceIte, Nat.reduceEqDiff, Int.reduceEq, Nat.reduceAdd, Nat.reduceSub, List.length_nil, List.length_cons, List.nil_append, List.cons_append, Nat.zero_add, Nat.sub_zero]; done)))) | (have ht := tally_ok (z := z) d hd c w none hpd hw0 hw1 hx; (with_reducible refine piE_fr ht [3, 0] ?_ ?_ ?_ ?_); (· kernel_rfl); (· exact ⟨rfl, by rw [plR (pl_int1 _)]; rfl, trivial⟩); (· simp [slH, sig, map_ints]; done); intro _ _; simp only [fixL_eq, List.map_cons, List.map_nil, slB_R (msL_pl _) hx, plR (pl_int1 _), setAll_cons, setAll_nil, setAll_nil2, List.set_cons_succ, List.set_cons_zero, List.drop_succ_cons, List.drop_nil, List.drop_zero, List.append_nil, rl_res, slB_some, List.length_cons, List.length_nil, Nat.zero_add, Nat.reduceAdd, List.cons_append, List.nil_append]; (with_reducible refine And.intro ?_ ?_); (· (simp -implicitDefEqProofs (disch := first | omega | assumption) only [chk_nil, chk_cons, pend_nil, pend_cons, obl_q, onQ_v, and_true, sub_ints, go_sem, ↓reduceIte, Nat.reduceEqDiff, Int.reduceEq, Nat.reduceAdd, Nat.reduceSub, List.length_nil, List.length_cons, List.nil_append, List.cons_append, Nat.zero_add, Nat.sub_zero]; done))) | (have ht := tally_ok (z := z) d hd c w (some (tl9, cap9)) hpd hw0 hw1 hx; (with_reducible refine piE_fr ht [4, 0] ?_ ?_ ?_ ?_); (· kernel_rfl); (· exact ⟨by rw [slB_R (msL_pl _) hx]; rfl, by rw [plR (pl_int1 _)]; rfl, trivial⟩); (· simp [slH, sig, map_ints]; done); intro _ _; simp only [fixL_eq, List.map_cons, List.map_nil, slB_R (msL_pl _) hx, plR (pl_int1 _), setAll_cons, setAll_nil, setAll_nil2, List.set_cons_succ, List.set_cons_zero, List.drop_succ_cons, List.drop_nil, List.drop_zero, List.append_nil, rl_res, slB_some, List.length_cons, List.length_nil, Nat.zero_add, Nat.reduceAdd, List.cons_append, List.nil_append]; (with_reducible refine And.intro ?_ ?_); (· (simp -implicitDefEqProofs (disch := first | omega | assumption) only [chk_nil, chk_cons, pend_nil, pend_cons, obl_q, onQ_v, and_true, sub_ints, go_sem, ↓reduceIte, Nat.reduceEqDiff, Int.reduceEq, Nat.reduceAdd, Nat.reduceSub, List.length_nil, List.length_cons, List.nil_append, List.cons_append, Nat.zero_add, Nat.sub_zero]; done))) | (with_reducible first | refine draw2 (id := 3) [(0, .r), (1, .r), (3, .q), (4, .q), (2, .e [0]), (5, .e []), (6, .q), (7, .q), (8, .e []), (9, .q)] (by kernel_rfl) (by kernel_rfl) ?_ | refine draw (by kernel_rfl) (by kernel_rfl) ?_ | apply pz_e | apply pz_eg | apply py_e) | ((with_reducible apply pi_e); (· rfl); (· rfl)) | with_reducible refine seq_k fun K hK => ?_ | (with_reducible refine hK _ _ ?_; clear hK) | ((with_reducible first | refine gd_dec ?_ ?_ | refine gd_ndec ?_ ?_ | refine qC_dec ?_ ?_ | refine qC_ndec ?_ ?_ | refine piC_dec ?_ ?_ | refine piC_ndec ?_ ?_ | refine zC_dec ?_ ?_ | refine zC_ndec ?_ ?_ | refine zD_dec ?_ ?_ | refine yC_dec ?_ ?_ | refine yC_ndec ?_ ?_ | refine if_dec ?_ ?_ | refine if_ndec ?_ ?_) <;> intro hh) | simp -implicitDefEqProofs (disch := first | omega | assumption) only [go_sem, ↓reduceIte, Nat.reduceEqDiff, Int.reduceEq, Nat.reduceAdd, Nat.reduceSub, Nat.reduceMul, Nat.mul_one, Nat.one_mul, List.length_nil, List.length_cons, List.nil_append, List.cons_append, List.length_append, List.set_cons_zero, List.set_cons_succ, Nat.zero_add, Nat.sub_zero, Option.isNone_none, Option.isNone_some, Int.toNat_natCast, Nat.add_sub_cancel_left, Bool.not_true, Bool.not_false, BitVec.reduceOfInt, Int.reduceToNat, zero8, sub_ints, wr_i8] | ((with_reducible first | refine gd_bool ?_ ?_ | refine if_bool ?_ ?_ | refine qC_bool ?_ ?_ | refine piC_bool ?_ ?_ | refine zC_bool ?_ ?_ | refine zD_bool ?_ ?_ | refine yC_bool ?_ ?_) <;> intro hh) | clear hK)
  all_goals first
    | (refine VS.holex (L := [.cells [.int .i64 w] 3, .cells (ints .i64 69 c) 24, .cells (ints .i64 8 zeroF) 28]) (by simp) ⟨plW (pl_int1 _), plW (ints_pl _ _ _), plW (ints_pl _ _ _), trivial⟩ ?_
       simp [subW, Fr.get, wf_int, wf_pt]; done)
    | exact ⟨(), trivial, VS.cutE (L := [.cells [.int .i64 (tallyF (d + 1) c w).2.2] 3]) (by simp) ⟨plW (pl_int1 _), trivial⟩ ⟨⟨rfl, wf_res⟩, trivial⟩⟩
end Go.Tb
end
section
namespace Go.Tb
open Go Go.Proofs
variable {z : Nat × Nat}
set_option maxRecDepth 20000
structure RightC (c : Nat → Int) : Prop where
  v : ValidC c
  half : c 67 ≤ 1000
  full : c 68 ≤ 1000
theorem rightC_iff {c : Nat → Int} : RightC c ↔ ValidC c ∧ c 67 ≤ 1000 ∧ c 68 ≤ 1000 := ⟨fun h => ⟨h.v, h.half, h.full⟩, fun h => ⟨h.1, h.2.1, h.2.2⟩⟩
open Classical in
noncomputable def rightB' (c : Nat → Int) : Bool := decide (RightC c)
theorem rightB'_iff {c : Nat → Int} : rightB' c = true ↔ RightC c := by unfold rightB'; exact @decide_eq_true_iff _ (Classical.propDecidable _)
theorem valid_T {c : Nat → Int} (h : ValidC c) : FnP (Tz z) 35 [posV c] (.bool true) := by
  simpa [h] using valid_ok (z := z) c
theorem valid_F {c : Nat → Int} (h : ¬ ValidC c) : FnP (Tz z) 35 [posV c] (.bool false) := by
  simpa [h] using valid_ok (z := z) c
open Classical in
set_option maxHeartbeats 4000000 in
theorem enRight_ok (c : Nat → Int) : FnP (Tz z) 15 [posV c] (.bool (rightB' c)) := by
  have e : rightB' c = decide (ValidC c ∧ c 67 ≤ 1000 ∧ c 68 ≤ 1000) := by rw [Bool.eq_iff_iff, rightB'_iff, rightC_iff, decide_eq_true_eq]
  rw [e]
  by_cases hv : ValidC c <;> by_cases h1 : c 67 ≤ 1000 <;> by_cases h2 : c 68 ≤ 1000
  all_goals
    refine ⟨by simp [posV_pl], Pl.bool, start [0, 1, 2] Tryz.func15 rfl (by decide) rfl (by kernel_rfl) (by simp [Tryz.f15]) ?_⟩
    simp only [Tryz.f15]
    unfold posV
    repeat' (first | (with_reducible first | refine call_p (valid_T (by assumption)) ?_ | refine qG_call (valid_T (by assumption)) ?_ | refine zG_call (valid_T (by assumption)) ?_ | refine yG_call (valid_T (by assumption)) ?_ | refine piG_call (valid_T (by assumption)) ?_ | refine call_p (valid_F (by assumption)) ?_ | refine qG_call (valid_F (by assumption)) ?_ | refine zG_call (valid_F (by assumption)) ?_ | refine yG_call (valid_F (by assumption)) ?_ | refine piG_call (valid_F (by assumption)) ?_ | refine seq_k fun K hK => ?_) | (with_reducible refine hK _ _ ?_; clear hK) | ((with_reducible first | refine gd_dec ?_ ?_ | refine gd_ndec ?_ ?_ | refine qC_dec ?_ ?_ | refine qC_ndec ?_ ?_ | refine piC_dec ?_ ?_ | refine piC_ndec ?_ ?_ | refine zC_dec ?_ ?_ | refine zC_ndec ?_ ?_ | refine zD_dec ?_ ?_ | refine yC_dec ?_ ?_ | refine yC_ndec ?_ ?_ | refine if_dec ?_ ?_ | refine if_ndec ?_ ?_) <;> intro hh) | simp -implicitDefEqProofs (disch := first | omega | assumption) only [go_sem, ↓reduceIte, Nat.reduceEqDiff, Int.reduceEq, Nat.reduceAdd, Nat.reduceSub, Nat.reduceMul, Nat.mul_one, Nat.one_mul, List.length_nil, List.length_cons, List.nil_append, List.cons_append, List.length_append, List.set_cons_zero, List.set_cons_succ, Nat.zero_add, Nat.sub_zero, Option.isNone_none, Option.isNone_some, Int.toNat_natCast, Nat.add_sub_cancel_left, Bool.not_true, Bool.not_false, BitVec.reduceOfInt, Int.reduceToNat, onGd_T, onGd_F, pickV_T, pickV_F, decT, decF] | ((with_reducible first | refine gd_bool ?_ ?_ | refine if_bool ?_ ?_ | refine qC_bool ?_ ?_ | refine piC_bool ?_ ?_ | refine zC_bool ?_ ?_ | refine zD_bool ?_ ?_ | refine yC_bool ?_ ?_) <;> intro hh) | clear hK)
    all_goals (simp [*]; done)
theorem right_T {c : Nat → Int} (h : RightC c) : FnP (Tz z) 15 [posV c] (.bool true) := by
  have := enRight_ok (z := z) c; rwa [rightB'_iff.2 h] at this
theorem right_F {c : Nat → Int} (h : ¬ RightC c) : FnP (Tz z) 15 [posV c] (.bool false) := by
  have := enRight_ok (z := z) c
  have e : rightB' c = false := by cases hb : rightB' c; rfl; exact absurd (rightB'_iff.1 hb) h
  rwa [e] at this
end Go.Tb
end
section
namespace Go.Tb
open Go Go.Proofs
variable {z : Nat × Nat}
set_option maxRecDepth 20000
theorem RightC.posOk {c : Nat → Int} (h : RightC c) : PosOk c := by
  have hb : Bd c := fun i hi => ⟨(h.v.cells i hi).1, (h.v.cells i hi).2.1⟩
  refine ⟨hb, fun k hk hp => ?_, h.v.turn, h.v.castle, ⟨h.v.half, by have := h.half; omega⟩, ⟨by have := h.v.full; omega, by have := h.full; omega⟩⟩
  have h1 := (h.v.cells k hk).2.2 hp (fun e => by rw [e] at hp; cases hp)
  omega
theorem RightC.posIn {c : Nat → Int} (h : RightC c) : PosIn c := by
  refine ⟨h.posOk.bd, h.v.turn, h.v.castle, ?_, h.v.half, by have := h.v.full; omega⟩
  have hp := h.v.pass
  unfold passB at hp
  split at hp
  · have := of_decide_eq_true hp; omega
  · omega
open Classical in
noncomputable def beginB (c : Nat → Int) : Bool := decide (RightC c ∧ (legL c).length ≤ 218)
end Go.Tb
end
section
namespace Go.Tb
open Go Go.Proofs
variable {z : Nat × Nat}
set_option maxRecDepth 20000
def AskC (c : Nat → Int) (n : Int) : Prop := RightC c ∧ 1 ≤ n ∧ n ≤ 5
theorem ask_res (f : Nat → Int) (b : Bool) : Pl (.tuple [.agg (ints .i64 8 f).toArray, .bool b].toArray) := Pl.tuple fun v hv => by
  simp only [List.mem_cons, List.not_mem_nil, or_false] at hv
  rcases hv with rfl | rfl
  · exact Pl.agg (ints_pl _ _ _)
  · exact Pl.bool
set_option maxHeartbeats 4000000 in
theorem pfTally_F {c : Nat → Int} {n : Int} (h : ¬ AskC c n) : FnP (Tz z) 9 [posV c, .int .i64 n] (.tuple [.agg (ints .i64 8 zeroF).toArray, .bool false].toArray) := by
  unfold AskC at h
  by_cases hr : RightC c <;> by_cases h1 : n < 1 <;> by_cases h2 : 5 < n
  all_goals first
    | (exfalso; exact h ⟨hr, by omega, by omega⟩)
    | (exfalso; omega)
    | (refine ⟨by simp [posV_pl, Pl.int], ask_res _ _, start [0, 1, 2, 4, 5, 6, 17] Tryz.func9 rfl (by decide) rfl (by kernel_rfl) (by simp [Tryz.f9]) ?_⟩
       simp only [Tryz.f9]
       unfold posV
       repeat' (first | (with_reducible first | refine call_p (right_T (by assumption)) ?_ | refine qG_call (right_T (by assumption)) ?_ | refine zG_call (right_T (by assumption)) ?_ | refine yG_call (right_T (by assumption)) ?_ | refine piG_call (right_T (by assumption)) ?_ | refine call_p (right_F (by assumption)) ?_ | refine qG_call (right_F (by assumption)) ?_ | refine zG_call (right_F (by assumption)) ?_ | refine yG_call (right_F (by assumption)) ?_ | refine piG_call (right_F (by assumption)) ?_ | refine seq_k fun K hK => ?_) | (with_reducible refine hK _ _ ?_; clear hK) | ((with_reducible first | refine gd_dec ?_ ?_ | refine gd_ndec ?_ ?_ | refine qC_dec ?_ ?_ | refine qC_ndec ?_ ?_ | refine piC_dec ?_ ?_ | refine piC_ndec ?_ ?_ | refine zC_dec ?_ ?_ | refine zC_ndec ?_ ?_ | refine zD_dec ?_ ?_ | refine yC_dec ?_ ?_ | refine yC_ndec ?_ ?_ | refine if_dec ?_ ?_ | refine if_ndec ?_ ?_) <;> intro hh) | simp -implicitDefEqProofs (disch := first | omega | assumption) only [go_sem, ↓reduceIte, Nat.reduceEqDiff, Int.reduceEq, Nat.reduceAdd, Nat.reduceSub, Nat.reduceMul, Nat.mul_one, Nat.one_mul, List.length_nil, List.length_cons, List.nil_append, List.cons_append, List.length_append, List.set_cons_zero, List.set_cons_succ, Nat.zero_add, Nat.sub_zero, Option.isNone_none, Option.isNone_some, Int.toNat_natCast, Nat.add_sub_cancel_left, Bool.not_true, Bool.not_false, BitVec.reduceOfInt, Int.reduceToNat, onGd_T, onGd_F, pickV_T, pickV_F, decT, decF, zero8, sub_ints, wr_i8, wr_1i] | ((with_reducible first | refine gd_bool ?_ ?_ | refine if_bool ?_ ?_ | refine qC_bool ?_ ?_ | refine piC_bool ?_ ?_ | refine zC_bool ?_ ?_ | refine zD_bool ?_ ?_ | refine yC_bool ?_ ?_) <;> intro hh) | clear hK))
  all_goals first
    | rfl
set_option maxHeartbeats 4000000 in
theorem pfTally_T {c : Nat → Int} {d : Nat} (hr : RightC c) (hd : d + 1 ≤ 5) (hp : PosD (d + 1) c) : FnP (Tz z) 9 [posV c, .int .i64 ((d + 1 : Nat) : Int)] (.tuple [.agg (ints .i64 8 (tallyF (d + 1) c 6000).1).toArray, .bool (tallyF (d + 1) c 6000).2.1].toArray) := by
  refine ⟨by simp [posV_pl, Pl.int], ask_res _ _, start [0, 1, 2, 4, 5, 6, 17] Tryz.func9 rfl (by decide) rfl (by kernel_rfl) (by simp [Tryz.f9]) ?_⟩
  have h1 : ¬ ((d + 1 : Nat) : Int) < 1 := by omega
  have h2 : ¬ (5 : Int) < ((d + 1 : Nat) : Int) := by omega
  simp only [Tryz.f9]
  unfold posV
  repeat' (first | (with_reducible first | refine call_p (right_T (by assumption)) ?_ | refine qG_call (right_T (by assumption)) ?_ | refine zG_call (right_T (by assumption)) ?_ | refine yG_call (right_T (by assumption)) ?_ | refine piG_call (right_T (by assumption)) ?_) | ((with_reducible refine call_fr (Tally_ok d (by omega) c 6000 hp (by decide) (by decide)) [2] ?_ ?_ ?_ ?_); (· kernel_rfl); (· exact ⟨by kernel_rfl, trivial⟩); (· kernel_rfl); intro xx hx; simp -implicitDefEqProofs only [fixL_eq, setAll_cons, setAll_nil, setAll_nil2, List.map_cons, List.map_nil, rn_cells, rn_ro, rn_any, rn_obj, boardL_map, mvL_map, psL_map, map_ints, List.set_cons_zero, List.set_cons_succ, List.length_cons, List.length_nil, List.drop_succ_cons, List.drop_zero, List.drop_nil, List.append_nil, List.nil_append, List.cons_append, rl_tuple, rl_int, rl_bool, rl_string, rl_ptr, rl_ptr0, rl_slice, rl_slice0, rl_agg, List.map_toArray, Array.map_empty, List.length_append, Nat.zero_add, Nat.reduceAdd, sig, Nat.reduceLT, Nat.reduceSub, ↓reduceIte, List.getElem?_cons_zero, List.getElem?_cons_succ, List.getElem?_nil, Nat.reduceAdd, Nat.add_zero, Nat.sub_self]) | with_reducible refine seq_k fun K hK => ?_ | (with_reducible refine hK _ _ ?_; clear hK) | ((with_reducible first | refine gd_dec ?_ ?_ | refine gd_ndec ?_ ?_ | refine qC_dec ?_ ?_ | refine qC_ndec ?_ ?_ | refine piC_dec ?_ ?_ | refine piC_ndec ?_ ?_ | refine zC_dec ?_ ?_ | refine zC_ndec ?_ ?_ | refine zD_dec ?_ ?_ | refine yC_dec ?_ ?_ | refine yC_ndec ?_ ?_ | refine if_dec ?_ ?_ | refine if_ndec ?_ ?_) <;> intro hh) | simp -implicitDefEqProofs (disch := first | omega | assumption) only [go_sem, ↓reduceIte, Nat.reduceEqDiff, Int.reduceEq, Nat.reduceAdd, Nat.reduceSub, Nat.reduceMul, Nat.mul_one, Nat.one_mul, List.length_nil, List.length_cons, List.nil_append, List.cons_append, List.length_append, List.set_cons_zero, List.set_cons_succ, Nat.zero_add, Nat.sub_zero, Option.isNone_none, Option.isNone_some, Int.toNat_natCast, Nat.add_sub_cancel_left, Bool.not_true, Bool.not_false, BitVec.reduceOfInt, Int.reduceToNat, onGd_T, onGd_F, pickV_T, pickV_F, decT, decF, zero8, sub_ints, wr_i8, wr_1i] | ((with_reducible first | refine gd_bool ?_ ?_ | refine if_bool ?_ ?_ | refine qC_bool ?_ ?_ | refine piC_bool ?_ ?_ | refine zC_bool ?_ ?_ | refine zD_bool ?_ ?_ | refine yC_bool ?_ ?_) <;> intro hh) | clear hK)
  all_goals first
    | rfl
end Go.Tb
end
section
namespace Go.Tb
open Go Go.Proofs
set_option maxRecDepth 20000
attribute [local irreducible] tg4 madeC updB attB inChk
theorem leg_perm (c : Nat → Int) : (legL c).Perm ((pseuK c 64 ++ castL c).filter (legB c)) := (ordL_perm _).filter _
theorem perm_lift {α β : Type} {f : α → β} {x m : List β} (h : x.Perm m) : ∀ l : List α, l.map f = x → ∃ l', l.Perm l' ∧ l'.map f = m := by
  induction h with
  | nil => intro l hl; exact ⟨l, List.Perm.refl _, hl⟩
  | cons a _ ih =>
    intro l hl
    cases l with
    | nil => cases hl
    | cons b l =>
      simp only [List.map_cons, List.cons.injEq] at hl
      obtain ⟨l', h1, h2⟩ := ih l hl.2
      exact ⟨b :: l', h1.cons b, by rw [List.map_cons, hl.1, h2]⟩
  | swap a b t =>
    intro l hl
    match l, hl with
    | x :: y :: l, hl =>
      simp only [List.map_cons, List.cons.injEq] at hl
      exact ⟨y :: x :: l, List.Perm.swap y x l, by rw [List.map_cons, List.map_cons, hl.1, hl.2.1, hl.2.2]⟩
  | trans _ _ ih1 ih2 =>
    intro l hl
    obtain ⟨l1, a1, a2⟩ := ih1 l hl
    obtain ⟨l2, b1, b2⟩ := ih2 l1 a2
    exact ⟨l2, a1.trans b1, b2⟩
def sumL (g : Mv → Int) : List Mv → Int
  | [] => 0
  | M :: l => g M + sumL g l
theorem sumL_perm {g : Mv → Int} {l m : List Mv} (h : l.Perm m) : sumL g l = sumL g m := by
  induction h with
  | nil => rfl
  | cons a _ ih => simp only [sumL, ih]
  | swap a b t => simp only [sumL]; omega
  | trans _ _ ih1 ih2 => rw [ih1, ih2]
theorem sumL_app (g : Mv → Int) : ∀ l m : List Mv, sumL g (l ++ m) = sumL g l + sumL g m
  | [], m => by simp [sumL]
  | a :: l, m => by simp only [List.cons_append, sumL, sumL_app g l m]; omega
theorem sumK_L (g : Mv → Int) (l : List Mv) : ∀ k : Nat, k ≤ l.length → sumK (fun i => g (vAt l i)) k = sumL g (l.take k)
  | 0, _ => by simp [sumK, sumL]
  | k + 1, h => by
    rw [sumK, sumK_L g l k (by omega), List.take_add_one, vAt_get (by omega), Option.toList_some, sumL_app]
    simp [sumL]
theorem pfN_L (d : Nat) (s : PSt) : pfN (d + 1) s = sumL (fun M => pfN d (nxt s M)) (allS s) := by
  rw [pfN_S, sumK_L (fun M => pfN d (nxt s M)) (allS s) _ (Nat.le_refl _), List.take_length]
theorem tLoop_true {G : M3 → Int → TR} {cnt : Mv → Int} {good : Mv → Prop} : ∀ (l : List Mv) (n : Nat → Int) (w : Int), (tLoop G (l.map toM) n w).2.1 = true → (∀ M ∈ l, ∀ w, (G (toM M) w).2.1 = true → good M ∧ (G (toM M) w).1 0 = cnt M) →
    (∀ M ∈ l, good M) ∧ (tLoop G (l.map toM) n w).1 0 = n 0 + sumL cnt l
  | [], n, w, _, _ => ⟨fun M hM => (by cases hM), by simp [tLoop, sumL]⟩
  | M :: l, n, w, h, hG => by
    rw [List.map_cons, tLoop] at h ⊢
    by_cases hx : (G (toM M) w).2.1 = true
    · rw [if_pos hx] at h ⊢
      obtain ⟨g1, g2⟩ := hG M (by simp) w hx
      obtain ⟨a1, a2⟩ := tLoop_true l _ _ h fun M' hM' => hG M' (by simp [hM'])
      refine ⟨fun M' hM' => ?_, ?_⟩
      · rcases List.mem_cons.1 hM' with rfl | hM'
        · exact g1
        · exact a1 M' hM'
      · rw [a2, g2, sumL]; omega
    · rw [if_neg hx] at h; cases h
theorem half_step (l : List UInt8) (D : Pd) (M : Mv) (B : Brd) {N : Int} (hh : 0 ≤ D.half ∧ D.half ≤ N) : 0 ≤ (updD l D M B).half ∧ (updD l D M B).half ≤ N + 1 := by
  show 0 ≤ halfUp D M B ∧ halfUp D M B ≤ N + 1
  unfold halfUp; split <;> omega
theorem mc_step (l : List UInt8) (D : Pd) (M : Mv) (B : Brd) {N : Int} (hh : 0 ≤ D.mc ∧ D.mc ≤ N) : 0 ≤ (updD l D M B).mc ∧ (updD l D M B).mc ≤ N + 1 := by
  show 0 ≤ mcUp D ∧ mcUp D ≤ N + 1
  unfold mcUp; split <;> omega
theorem zeroF_at (i : Nat) (x : Int) : zeroF i + x = x := by unfold zeroF; omega
def CntC (d : Nat) : Prop := ∀ (c : Nat → Int) (s : PSt) (w N : Int), InvC c → RepS c s → (0 ≤ s.2.1.half ∧ s.2.1.half ≤ N) → (0 ≤ s.2.1.mc ∧ s.2.1.mc ≤ N) → N + d ≤ 1000000 → (tallyF (d + 1) c w).2.1 = true → PfOk (d + 1) s ∧ pfN (d + 1) s = (tallyF (d + 1) c w).1 0
theorem gOne_true {c : Nat → Int} {m : M3} {w : Int} (h : (gOne c m w).2.1 = true) : (gOne c m w).1 0 = 1 := by
  unfold gOne at h ⊢
  split at h
  · cases h
  · rename_i h1
    rw [if_neg h1]
    split at h
    · cases h
    · rename_i h2
      rw [if_neg h2]; rfl
theorem gMore_true {d : Nat} {c : Nat → Int} {m : M3} {w : Int} (h : (gMore d c m w).2.1 = true) : dbtB c m = false ∧ (tallyF (d + 1) (madeM c m) (w - 1)).2.1 = true ∧ (gMore d c m w).1 0 = (tallyF (d + 1) (madeM c m) (w - 1)).1 0 := by
  unfold gMore at h ⊢
  split at h
  · cases h
  · rename_i h1
    rw [if_neg h1]
    refine ⟨?_, h, rfl⟩
    cases hx : dbtB c m
    · rfl
    · exact absurd (.inr hx) h1
attribute [local irreducible] pfN tallyF sumL allS legL tLoop gOne gMore
theorem cnt_0 : CntC 0 := by
  intro c s w N hi hs hh hm hN h
  rw [Nat.zero_add] at h ⊢
  rw [tally_1] at h ⊢
  by_cases hl : 218 < (legL c).length
  · rw [if_pos hl] at h; cases h
  · rw [if_neg hl] at h ⊢
    have hst := st_ok hs hi (by omega) (by omega) (by omega)
    obtain ⟨l', hp, hmap⟩ := perm_lift (all_perm hs hi) (allS s) rfl
    rw [← hmap] at h ⊢
    obtain ⟨a1, a2⟩ := tLoop_true (G := gOne c) (cnt := fun M => pfN 0 (nxt s M)) (good := fun _ => True) l' zeroF w h fun M hM w' hG => ⟨trivial, by rw [gOne_true hG, pfN_0]⟩
    refine ⟨⟨hst, fun M hM => ⟨all_mvOk hs hi hM, trivial⟩⟩, ?_⟩
    rw [a2, zeroF_at, ← sumL_perm hp]
    exact pfN_L 0 s
theorem nxt_half (s : PSt) (M : Mv) {N : Int} (hh : 0 ≤ s.2.1.half ∧ s.2.1.half ≤ N) : 0 ≤ (nxt s M).2.1.half ∧ (nxt s M).2.1.half ≤ N + 1 := half_step s.1 s.2.1 M s.2.2 hh
theorem nxt_mc (s : PSt) (M : Mv) {N : Int} (hh : 0 ≤ s.2.1.mc ∧ s.2.1.mc ≤ N) : 0 ≤ (nxt s M).2.1.mc ∧ (nxt s M).2.1.mc ≤ N + 1 := mc_step s.1 s.2.1 M s.2.2 hh
attribute [local irreducible] nxt
theorem cnt_S {d : Nat} (ih : CntC d) : CntC (d + 1) := by
  intro c s w N hi hs hh hm hN h
  rw [tally_S] at h ⊢
  by_cases hl : 218 < (legL c).length
  · rw [if_pos hl] at h; cases h
  · rw [if_neg hl] at h ⊢
    have hst := st_ok hs hi (by omega) (by omega) (by omega)
    obtain ⟨l', hp, hmap⟩ := perm_lift (all_perm hs hi) (allS s) rfl
    rw [← hmap] at h ⊢
    obtain ⟨a1, a2⟩ := tLoop_true (G := gMore d c) (cnt := fun M => pfN (d + 1) (nxt s M)) (good := fun M => PfOk (d + 1) (nxt s M)) l' zeroF w h fun M hM w' hG => by
      have hM' : M ∈ allS s := hp.mem_iff.2 hM
      obtain ⟨q1, q2, q3⟩ := gMore_true hG
      have hmk := all_mok hs hi hM'
      have hn1 : 0 ≤ (nxt s M).2.1.half ∧ (nxt s M).2.1.half ≤ N + 1 := nxt_half s M hh
      have hn2 : 0 ≤ (nxt s M).2.1.mc ∧ (nxt s M).2.1.mc ≤ N + 1 := nxt_mc s M hm
      obtain ⟨b1, b2⟩ := ih (madeM c (toM M)) (nxt s M) (w' - 1) (N + 1) (inv_step hi hmk.kind hmk.leg) (rep_step hs hi hM' q1) hn1 hn2 (by omega) q2
      exact ⟨b1, by rw [q3, b2]⟩
    refine ⟨⟨hst, fun M hM => ⟨all_mvOk hs hi hM, a1 M (hp.mem_iff.1 hM)⟩⟩, ?_⟩
    rw [a2, zeroF_at, ← sumL_perm hp]
    exact pfN_L (d + 1) s
theorem count_law : ∀ d : Nat, CntC d
  | 0 => cnt_0
  | d + 1 => cnt_S (count_law d)
theorem posOk_of {c : Nat → Int} (hi : InvC c) (h1 : 0 ≤ c 67 ∧ c 67 ≤ 1000000) (h2 : 0 ≤ c 68 ∧ c 68 ≤ 1000000) : PosOk c :=
  ⟨hi.bd, hi.pawns, hi.turn, hi.cast, h1, h2⟩
theorem leg_kind {c : Nat → Int} (hi : InvC c) {m : M3} (hm : m ∈ legL c) : KindM c m ∧ legB c m = true := by
  have h1 : m ∈ (pseuK c 64 ++ castL c).filter (legB c) := (leg_perm c).mem_iff.1 hm
  obtain ⟨h2, h3⟩ := List.mem_filter.1 h1
  refine ⟨?_, h3⟩
  rcases List.mem_append.1 h2 with h | h
  · obtain ⟨f, t, hf, ht, ho, h4, h5, e1, e2, hp⟩ := (pseu_iff hi).1 h
    by_cases hps : psP c f t
    · obtain ⟨e, he⟩ := mvE_of hi hf ht ho h4 h5 hps
      have hnl : ¬ lastR c f t := fun hl => last_nops hi hl h4 hf ht ho h5 hps
      exact .e f t e he e1 e2 ((promOk_n hnl).1 hp)
    · refine .n f t (mvN_of hi hf ht ho h4 h5 ?_ hps) h4 hp e1 e2
      by_cases hl : lastR c f t
      · exact .inr ⟨(promOk_y hl).1 hp, hl.1⟩
      · exact .inl ((promOk_n hl).1 hp)
  · have hc : ∀ n r0 : Nat, m ∈ castK c r0 n → ∃ k : Nat, k < n ∧ castP c (r0 + k) ∧ m = (homeK (r0 + k : Nat), homeK (r0 + k : Nat) + 2 * cW (r0 + k : Nat), 0) := by
      intro n r0
      induction n with
      | zero => intro h; simp [castK] at h
      | succ n ih =>
        intro h
        rw [castK, List.mem_append] at h
        rcases h with h | h
        · obtain ⟨k, a, b⟩ := ih h; exact ⟨k, by omega, b⟩
        · split at h
          · simp only [List.mem_singleton] at h
            exact ⟨n, by omega, by assumption, h⟩
          · cases h
    have h64 := hi.turn
    obtain ⟨k, k1, k2, k3⟩ := hc 2 _ h
    have hr : (2 * c 64).toNat + k < 4 := by omega
    obtain ⟨e1, e2, e3, e4⟩ := home_nat hr
    rw [e4, e1] at k3
    subst k3
    have hok := (castP_iff hi hr (by omega)).1 ⟨k2, h3⟩
    exact .k _ (hok.mv hi hr).toMvK rfl rfl rfl
theorem posD_law : ∀ (d : Nat) (c : Nat → Int) (N : Int), InvC c → (0 ≤ c 67 ∧ c 67 ≤ N) → (0 ≤ c 68 ∧ c 68 ≤ N) → N + d ≤ 1000000 → PosD d c
  | 0, c, N, hi, h1, h2, hN => posOk_of hi (by omega) (by omega)
  | d + 1, c, N, hi, h1, h2, hN => by
    refine ⟨posOk_of hi (by omega) (by omega), fun m hm => ?_⟩
    obtain ⟨hk, hl⟩ := leg_kind hi hm
    have h64 := hi.turn
    have e67 : madeM c m 67 = mdHalf c m.1 m.2.1 := by unfold madeM; rw [madeC_67]
    have e68 : madeM c m 68 = c 68 + c 64 := by unfold madeM; rw [madeC_68]
    refine posD_law d (madeM c m) (N + 1) (inv_step hi hk hl) ?_ (by rw [e68]; omega) (by omega)
    rw [e67]; unfold mdHalf; split <;> omega
end Go.Tb
end
section
namespace Go.Tb
open Go Go.Proofs
set_option maxRecDepth 20000
attribute [local irreducible] tg4 madeC updB attB inChk
theorem bbL_bit (l : List (Int × Int)) (p : Int) : ∀ n : Nat, n ≤ 64 → ∀ j : Nat, j < 64 → (bbL l p n).getLsbD j = (decide (j < n) && decide (lkM l ((n - 1 - j : Nat) : Int) = some p))
  | 0, _, j, _ => by simp [bbL]
  | n + 1, hn, j, hj => by
    have hc : (((lkM l n).isSome && decide (p = (lkM l n).getD 0)) = true) ↔ lkM l n = some p := by
      rw [Bool.and_eq_true, decide_eq_true_eq]
      cases lkM l n with
      | none => simp
      | some v => simp [eq_comm]
    have hsh : ((bbL l p n) <<< 1).getLsbD j = (decide (1 ≤ j) && (bbL l p n).getLsbD (j - 1)) := by
      rw [BitVec.getLsbD_shiftLeft, decide_eq_true hj, Bool.true_and]
      by_cases h1 : j < 1
      · rw [decide_eq_true h1, decide_eq_false (by omega : ¬ 1 ≤ j)]; rfl
      · rw [decide_eq_false h1, decide_eq_true (by omega : 1 ≤ j)]; rfl
    have h1b : (1#64).getLsbD j = decide (j = 0) := by
      have : ∀ j : Fin 64, (1#64).getLsbD j.val = decide (j.val = 0) := by decide +kernel
      exact this ⟨j, hj⟩
    by_cases h0 : j = 0
    · subst h0
      rw [bbL]
      rw [show n + 1 - 1 - 0 = n by omega, decide_eq_true (by omega : 0 < n + 1), Bool.true_and]
      by_cases hx : lkM l n = some p
      · rw [if_pos (hc.2 hx), BitVec.getLsbD_or, h1b, hx]; simp
      · rw [if_neg (fun e => hx (hc.1 e)), hsh, decide_eq_false hx]; rfl
    · have e : (bbL l p (n + 1)).getLsbD j = (bbL l p n).getLsbD (j - 1) := by
        rw [bbL]
        split
        · rw [BitVec.getLsbD_or, hsh, h1b, decide_eq_false h0, Bool.or_false, decide_eq_true (by omega : 1 ≤ j), Bool.true_and]
        · rw [hsh, decide_eq_true (by omega : 1 ≤ j), Bool.true_and]
      rw [e, bbL_bit l p n (by omega) (j - 1) (by omega)]
      congr 1
      · exact decide_eq_decide.2 (by omega)
      · rw [show n - 1 - (j - 1) = n + 1 - 1 - j by omega]
theorem nbK_f (l : List (Int × Int)) : ∀ n : Nat, n ≤ 12 → ∀ k : Nat, k < 12 → (nbK l n).f k = if k < n then bbL l ((k : Int) + 1) 64 else 0#64
  | 0, _, k, hk => by
    rw [if_neg (by omega)]
    rcases k12 hk with rfl | rfl | rfl | rfl | rfl | rfl | rfl | rfl | rfl | rfl | rfl | rfl <;> rfl
  | n + 1, hn, k, hk => by
    rw [nbK_get, putP_f _ _ (by omega) hk, nbK_f l n (by omega) k hk]
    by_cases h : k = n
    · subst h; rw [if_pos rfl, if_pos (by omega)]
    · rw [if_neg (by omega)]
      by_cases h2 : k < n
      · rw [if_pos h2, if_pos (by omega)]
      · rw [if_neg h2, if_neg (by omega)]
theorem lastK_eq {p : Nat → Bool} {k : Nat} (hp : p k = true) : ∀ n : Nat, k < n → (∀ i, i < n → p i = true → i = k) → lastK p n = k
  | 0, h, _ => by omega
  | n + 1, h, hu => by
    rw [lastK]
    by_cases hn : p n = true
    · rw [if_pos hn]; have := hu n (by omega) hn; omega
    · rw [if_neg hn]
      refine lastK_eq hp n ?_ fun i hi => hu i (by omega)
      rcases Nat.lt_or_ge k n with h1 | h1
      · exact h1
      · have : k = n := by omega
        subst this; exact absurd hp hn
section
variable {c : Nat → Int}
theorem brdC_f (hb : Bd c) : RepF c (nbK (brdL c 64) 12) := by
  intro k hk s hs
  rw [nbK_f _ 12 (Nat.le_refl _) k hk, if_pos hk, occ_nat _ hs, bbL_bit _ _ 64 (Nat.le_refl _) _ (by omega), decide_eq_true (by omega : 63 - s < 64), Bool.true_and, show 64 - 1 - (63 - s) = s by omega, lkM_brd]
  have := hb s hs
  by_cases h : s < 64 ∧ 0 < c s
  · rw [if_pos h]
    exact decide_eq_decide.2 (by rw [Option.some.injEq])
  · rw [if_neg h, decide_eq_false (by simp)]
    exact (decide_eq_false (by omega)).symm
theorem calcN_f (B : Brd) (k : Nat) : (calcN B).f k = B.f k := by
  rcases Nat.lt_or_ge k 12 with h | h
  · rcases k12 h with rfl | rfl | rfl | rfl | rfl | rfl | rfl | rfl | rfl | rfl | rfl | rfl <;> rfl
  · unfold Brd.f; split <;> first | omega | rfl
theorem calcN_rep (hi : InvC c) {X : Brd} (hf : RepF c X) : RepB c (calcN X) := by
  have h0 : ∀ s : Nat, s < 64 → occB X.wk s = decide (c s = 1) := fun s hs => hf 0 (by decide) s hs
  have h1 : ∀ s : Nat, s < 64 → occB X.bk s = decide (c s = 7) := fun s hs => hf 6 (by decide) s hs
  refine ⟨fun k hk s hs => ?_, rfl, rfl, rfl, ?_, ?_⟩
  · rw [calcN_f]; exact hf k hk s hs
  · obtain ⟨k, k1, k2, k3, k4⟩ := hi.kingAt (b := 0) (.inl rfl)
    show lastK (fun k => occB X.wk k) 64 = _
    rw [k3]
    refine lastK_eq (by rw [h0 k k1]; exact decide_eq_true (by omega)) 64 k1 fun i hi' e => ?_
    rw [h0 i hi', decide_eq_true_eq] at e
    exact k4 i hi' (by omega)
  · obtain ⟨k, k1, k2, k3, k4⟩ := hi.kingAt (b := 1) (.inr rfl)
    show lastK (fun k => !occB X.wk k && occB X.bk k) 64 = _
    rw [k3]
    refine lastK_eq (by rw [h0 k k1, h1 k k1, decide_eq_false (by omega), decide_eq_true (by omega)]; rfl) 64 k1 fun i hi' e => ?_
    rw [h1 i hi', Bool.and_eq_true, decide_eq_true_eq] at e
    exact k4 i hi' (by omega)
theorem brdC_rep (hi : InvC c) : RepB c (brdC c) := calcN_rep hi (brdC_f hi.bd)
theorem crs_mem {x : Int} {r : Nat} (hr : r < 4) : ∀ n : Nat, n ≤ 4 → (rL r ∈ crs x n ↔ r < n ∧ bitI x r = 1)
  | 0, _ => by simp [crs]
  | n + 1, h => by
    rw [crs, List.mem_append, crs_mem hr n (by omega)]
    have hk : rL r = kqC n ↔ r = n := by
      have hr4 : r = 0 ∨ r = 1 ∨ r = 2 ∨ r = 3 := by omega
      have hn4 : n = 0 ∨ n = 1 ∨ n = 2 ∨ n = 3 := by omega
      rcases hr4 with rfl | rfl | rfl | rfl <;> rcases hn4 with rfl | rfl | rfl | rfl <;> decide
    constructor
    · rintro (⟨a, b⟩ | h2)
      · exact ⟨by omega, b⟩
      · split at h2
        · rw [List.mem_singleton, hk] at h2
          subst h2; exact ⟨by omega, by assumption⟩
        · cases h2
    · rintro ⟨a, b⟩
      rcases Nat.lt_or_ge r n with h1 | h1
      · exact .inl ⟨h1, b⟩
      · have : r = n := by omega
        subst this
        right; rw [if_pos b, List.mem_singleton, hk]
theorem rep_init (hi : InvC c) : RepS c (stC c) := by
  have h64 := hi.turn
  have hb := brdC_rep hi
  refine ⟨⟨hb, rfl, rfl⟩, ?_, fun r hr => ?_, rfl, ?_⟩
  · obtain ⟨k, k1, k2, k3, k4⟩ := hi.kingAt (b := c 64) (by omega)
    show inChk ⟨byt (crT (c 65)), c 67, c 68, c 64 + 1, c 66, false⟩ (brdC c) = _
    rw [inChk_iff hb hi.bd (s := c 64) (by omega) rfl k1 k3, k3]
  · rw [Bool.eq_iff_iff, can_iff hr, decide_eq_true_eq]
    show rL r ∈ crT (c 65) ↔ _
    unfold crT
    by_cases hn : crs (c 65) 4 = []
    · rw [if_pos hn]
      have h := crs_mem (x := c 65) hr 4 (Nat.le_refl _)
      rw [hn] at h
      constructor
      · intro h2
        have hr4 : r = 0 ∨ r = 1 ∨ r = 2 ∨ r = 3 := by omega
        exfalso
        rcases hr4 with rfl | rfl | rfl | rfl <;> revert h2 <;> decide
      · intro h2
        have := h.2 ⟨hr, h2⟩
        cases this
    · rw [if_neg hn, crs_mem hr 4 (Nat.le_refl _)]
      exact ⟨fun h => h.2, fun h => ⟨hr, h⟩⟩
  · show (crT (c 65)).length ≤ 1000
    unfold crT
    split
    · decide
    · have := crs_len (c 65) 4; omega
theorem perft_law {d : Nat} (hr : RightC c) (hd : d + 1 ≤ 5) (h : (tallyF (d + 1) c 6000).2.1 = true) : PfOk (d + 1) (stC c) ∧ pfN (d + 1) (stC c) = (tallyF (d + 1) c 6000).1 0 := by
  have hi := inv_of_valid hr.v
  have h1 := hr.v.half
  have h2 := hr.v.full
  have h3 := hr.half
  have h4 := hr.full
  exact count_law d c (stC c) 6000 1000 hi (rep_init hi) ⟨h1, h3⟩ ⟨show 0 ≤ c 68 by omega, h4⟩ (by omega) h
theorem posD_right {d : Nat} (hr : RightC c) (hd : d ≤ 5) : PosD d c := by
  have h1 := hr.v.half
  have h2 := hr.v.full
  have h3 := hr.half
  have h4 := hr.full
  exact posD_law d c 1000 (inv_of_valid hr.v) ⟨h1, h3⟩ ⟨by omega, h4⟩ (by omega)
end
end Go.Tb
end
section
set_option maxRecDepth 100000
namespace Go.Tb
open Go Go.Proofs Go.Lib Go.ChangeShapes Go.WideShapes Go.ChangeAt Go.RowKit
def litI {H : Type} (k : IntKind) (zs : List Int) : List (DataW H) := zs.map fun z => .lit (.int k z)
theorem tabV {P : Program} {W : World} {n : String} {g : Nat} {t e : TypeId} {k : IntKind} {m : Nat} {zs : List Int} (hg : P.globalNamed n = some g) (hty : (P.globals[g]?).map (·.type) = some t)
    (ht : P.underlying t = some (.array m e)) (he : P.underlying e = some (.int k)) (hce : P.cellsOf e = 1) (hct : P.cellsOf t = m) (h : VarReads P W n (.agg (litI k zs))) :
    (∀ (j : Nat) (z : Int), zs[j]? = some z → W.cell? ⟨g, 0 + j, none⟩ = some (.int k z)) ∧ g < W.heap.size := by
  obtain ⟨g', t', cs, fuel, p, hg', hty', hvar, hd⟩ := h
  obtain rfl := Option.some.inj (hg.symm.trans hg')
  obtain rfl := Option.some.inj (hty.symm.trans hty')
  have e1 := cells_of_tab ht he hce hct hd
  constructor
  · intro j z hj
    rw [Nat.zero_add, World.var?_cell hg hvar j, ← Array.getElem?_toList, e1, List.getElem?_map, hj]
    rfl
  · unfold World.var? at hvar
    rw [hg] at hvar
    simp only [Option.bind_some] at hvar
    split at hvar
    · rename_i h1
      exact (Array.getElem?_eq_some_iff.1 h1).1
    · cases hvar
theorem sliV {P : Program} {W : World} {n : String} {g : Nat} {t e : TypeId} {k : IntKind} {zs : List Int} (hg : P.globalNamed n = some g) (hty : (P.globals[g]?).map (·.type) = some t)
    (ht : P.underlying t = some (.slice e)) (he : P.underlying e = some (.int k)) (hce : P.cellsOf e = 1) (hl : 0 < zs.length) (h : VarReads P W n (.slice (litI k zs) [])) :
    ∃ b off : Nat, W.cell? ⟨g, 0, none⟩ = some (.slice (some ⟨b, off, none⟩) zs.length zs.length) ∧ (∀ (j : Nat) (z : Int), zs[j]? = some z → W.cell? ⟨b, off + j, none⟩ = some (.int k z)) ∧ g < W.heap.size ∧ b < W.heap.size := by
  obtain ⟨g', t', cs, fuel, p, hg', hty', hvar, hd⟩ := h
  obtain rfl := Option.some.inj (hg.symm.trans hg')
  obtain rfl := Option.some.inj (hty.symm.trans hty')
  rcases open_ints ht he hce hd with ⟨_, hx⟩ | ⟨a, len, cap, ys, hcs, _, hlc, _, hyl, hx, hcell, _⟩
  · cases hx
  have e0 := congrArg Prod.fst hx
  simp only [DataW.slice.injEq] at e0
  obtain ⟨eE, eR⟩ := e0
  have hinj : ∀ (l1 l2 : List Int), (litI k l1 : List (DataW Unit)) = lits k l2 → l1 = l2 := by
    intro l1
    induction l1 with
    | nil => intro l2 h; cases l2 with | nil => rfl | cons _ _ => cases h
    | cons x l ih =>
      intro l2 h
      cases l2 with
      | nil => cases h
      | cons y l' =>
        simp only [litI, lits, List.map_cons, List.cons.injEq, DataW.lit.injEq, Lit.int.injEq, true_and] at h
        obtain ⟨rfl, h2⟩ := h
        rw [ih l' h2]
  have e3 := hinj _ _ eE
  have e4 := hinj [] _ eR
  have hys : ys = zs := by rw [← List.take_append_drop len ys, ← e4, ← e3]; simp
  subst hys
  simp only [if_true] at hyl
  have hlen : len = ys.length := by
    have := congrArg List.length e3
    rw [List.length_take] at this; omega
  obtain ⟨b, off, rfl, hc⟩ := ints_at hcell hl
  refine ⟨b, off, ?_, fun j z hj => ?_, ?_, ?_⟩
  · have hcap : cap = ys.length := hyl.symm
    rw [World.var?_cell hg hvar 0, ← Array.getElem?_toList, hcs, hcap, hlen]; rfl
  · have hj' := (List.getElem?_eq_some_iff.1 hj).1
    rw [hc j hj', List.getD, hj]; rfl
  · unfold World.var? at hvar
    rw [hg] at hvar
    simp only [Option.bind_some] at hvar
    split at hvar
    · rename_i h1
      exact (Array.getElem?_eq_some_iff.1 h1).1
    · cases hvar
  · have := hc 0 hl
    unfold World.cell? at this
    cases hb : W.heap[b]? with
    | none => simp [hb] at this
    | some _ => exact (Array.getElem?_eq_some_iff.1 hb).1
structure Mem (W : World) (z : Nat × Nat) (b1 b2 : Nat) : Prop where
  g0 : W.cell? ⟨0, 0, none⟩ = some (.slice (some ⟨b1, z.1, none⟩) 12 12)
  g1 : W.cell? ⟨1, 0, none⟩ = some (.slice (some ⟨b2, z.2, none⟩) 4 4)
  g2 : ∀ (j : Nat) (x : Int), bbKnightMoves[j]? = some x → W.cell? ⟨2, 0 + j, none⟩ = some (.int .u64 x)
  g3 : ∀ (j : Nat) (x : Int), bbKingMoves[j]? = some x → W.cell? ⟨3, 0 + j, none⟩ = some (.int .u64 x)
  g4 : ∀ (j : Nat) (x : Int), bbDiagonals[j]? = some x → W.cell? ⟨4, 0 + j, none⟩ = some (.int .u64 x)
  g5 : ∀ (j : Nat) (x : Int), bbAntiDiagonals[j]? = some x → W.cell? ⟨5, 0 + j, none⟩ = some (.int .u64 x)
  g6 : ∀ (j : Nat) (x : Int), bbRanks[j]? = some x → W.cell? ⟨6, 0 + j, none⟩ = some (.int .u64 x)
  g7 : ∀ (j : Nat) (x : Int), bbFiles[j]? = some x → W.cell? ⟨7, 0 + j, none⟩ = some (.int .u64 x)
  s1 : ∀ (j : Nat) (x : Int), ([1, 2, 3, 4, 5, 6, 7, 8, 9, 10, 11, 12] : List Int)[j]? = some x → W.cell? ⟨b1, z.1 + j, none⟩ = some (.int .i8 x)
  s2 : ∀ (j : Nat) (x : Int), ([2, 3, 4, 5] : List Int)[j]? = some x → W.cell? ⟨b2, z.2 + j, none⟩ = some (.int .i8 x)
  lt : 12 ≤ W.heap.size
  l1 : b1 < W.heap.size
  l2 : b2 < W.heap.size
def renM (b1 b2 : Nat) : Nat → Nat := fun i => if i < 12 then i else if i = 12 then b1 else if i = 13 then b2 else 0
theorem simM {W : World} {z : Nat × Nat} {b1 b2 : Nat} (h : Mem W z b1 b2) : Sim (Tz z).ng (renM b1 b2) ((Tz z).pad ++ []) W := by
  rw [List.append_nil]
  have hpad : (Tz z).pad = padL z := rfl
  have hng : (Tz z).ng = 12 := rfl
  have hro : ∀ (i b : Nat) (c : List Value), (padL z)[i]? = some (.ro b c) → ∀ v ∈ c, WF (padL z).length v := fun i b c hi => by
    have := (Tz z).wf i b c hi
    have h1 : (padL z).length = 100 := (Tz z).len
    rw [h1]; exact this
  refine ⟨by rw [hng, (Tz z).len]; omega, fun g hg => ?_, fun i j o hi hw => ?_, fun i hi => ?_, fun i c T hi => ?_, fun i b c hi => ⟨fun j v hj => ?_, hro i b c hi⟩, fun i o hi => ?_⟩
  · rw [hng] at hg; unfold renM; rw [if_pos hg]
  · have := (Tz z).ro i o hi; rw [this] at hw; cases hw
  · have h1 := h.lt; have h2 := h.l1; have h3 := h.l2
    unfold renM; split
    · omega
    · split
      · exact h2
      · split
        · exact h3
        · omega
  · have := (Tz z).ro i _ hi; cases this
  · have hi0 := hi
    rw [hpad] at hi
    have h14 : i < 14 := by
      by_cases h14 : i < 14
      · exact h14
      · unfold padL at hi
        rw [List.getElem?_append_right (by simp; omega)] at hi
        have := List.eq_of_mem_replicate (List.mem_of_getElem? hi)
        cases this
    have hu : ∀ (l : List Int) (k : IntKind) (g o : Nat), (∀ (j : Nat) (x : Int), l[j]? = some x → W.cell? ⟨g, o + j, none⟩ = some (.int k x)) → ∀ (j : Nat) (v : Value), (l.map (Value.int k))[j]? = some v → W.cell? ⟨g, o + j, none⟩ = some (rl (renM b1 b2) v) := by
      intro l k g o hl j v hv
      rw [List.getElem?_map, Option.map_eq_some_iff] at hv
      obtain ⟨x, hx, rfl⟩ := hv
      rw [rl_int]; exact hl j x hx
    have hcase : i = 0 ∨ i = 1 ∨ i = 2 ∨ i = 3 ∨ i = 4 ∨ i = 5 ∨ i = 6 ∨ i = 7 ∨ i = 8 ∨ i = 9 ∨ i = 10 ∨ i = 11 ∨ i = 12 ∨ i = 13 := by omega
    rcases hcase with rfl | rfl | rfl | rfl | rfl | rfl | rfl | rfl | rfl | rfl | rfl | rfl | rfl | rfl
    · have e := (pad0 z).symm.trans hi0
      simp only [Option.some.injEq, AO.ro.injEq] at e
      obtain ⟨rfl, rfl⟩ := e
      cases j with
      | zero => simp only [List.getElem?_cons_zero, Option.some.injEq] at hj; subst hj; rw [rl_slice]; exact h.g0
      | succ j => simp at hj
    · have e := (pad1 z).symm.trans hi0
      simp only [Option.some.injEq, AO.ro.injEq] at e
      obtain ⟨rfl, rfl⟩ := e
      cases j with
      | zero => simp only [List.getElem?_cons_zero, Option.some.injEq] at hj; subst hj; rw [rl_slice]; exact h.g1
      | succ j => simp at hj
    · have e := (pad2 z).symm.trans hi0
      simp only [Option.some.injEq, AO.ro.injEq] at e
      obtain ⟨rfl, rfl⟩ := e
      exact hu _ _ _ _ h.g2 j v hj
    · have e := (pad3 z).symm.trans hi0
      simp only [Option.some.injEq, AO.ro.injEq] at e
      obtain ⟨rfl, rfl⟩ := e
      exact hu _ _ _ _ h.g3 j v hj
    · have e := (pad4 z).symm.trans hi0
      simp only [Option.some.injEq, AO.ro.injEq] at e
      obtain ⟨rfl, rfl⟩ := e
      exact hu _ _ _ _ h.g4 j v hj
    · have e := (pad5 z).symm.trans hi0
      simp only [Option.some.injEq, AO.ro.injEq] at e
      obtain ⟨rfl, rfl⟩ := e
      exact hu _ _ _ _ h.g5 j v hj
    · have e := (pad6 z).symm.trans hi0
      simp only [Option.some.injEq, AO.ro.injEq] at e
      obtain ⟨rfl, rfl⟩ := e
      exact hu _ _ _ _ h.g6 j v hj
    · have e := (pad7 z).symm.trans hi0
      simp only [Option.some.injEq, AO.ro.injEq] at e
      obtain ⟨rfl, rfl⟩ := e
      exact hu _ _ _ _ h.g7 j v hj
    · have e : (some AO.any) = some (AO.ro b c) := hi; cases e
    · have e : (some AO.any) = some (AO.ro b c) := hi; cases e
    · have e : (some AO.any) = some (AO.ro b c) := hi; cases e
    · have e : (some AO.any) = some (AO.ro b c) := hi; cases e
    · have e := (pad12 z).symm.trans hi0
      simp only [Option.some.injEq, AO.ro.injEq] at e
      obtain ⟨rfl, rfl⟩ := e
      exact hu _ _ _ _ h.s1 j v hj
    · have e := (pad13 z).symm.trans hi0
      simp only [Option.some.injEq, AO.ro.injEq] at e
      obtain ⟨rfl, rfl⟩ := e
      exact hu _ _ _ _ h.s2 j v hj
  · have := (Tz z).ro i _ hi; cases this
theorem callW {f : FuncId} {W : World} {z : Nat × Nat} {b1 b2 : Nat} {vs : List Value} {v : Value} (h : Mem W z b1 b2) (hF : FnP (Tz z) f vs v) :
    Calls Tryz.prog f vs.toArray W fun e w' => e = .returned v ∧ Below W.heap.size W w' := by
  have h1 := hF.call.2 _ W (simM h) fun u hu => (hF.args u hu).wf _
  rw [map_pl hF.args] at h1
  refine h1.mono fun e w' ⟨ρ', u, L', he, hu, _, _, hx⟩ => ?_
  subst hu
  refine ⟨by rw [he, hF.res], hx.os, hx.tape, hx.output, hx.size, fun k hk => hx.keep k hk fun i o hi hw => ?_⟩
  rw [List.append_nil] at hi
  have := (Tz z).ro i o hi; rw [this] at hw; cases hw
end Go.Tb
end
section
set_option maxRecDepth 100000
namespace Go.Tb
open Go Go.Proofs Go.Lib Go.ChangeShapes Go.WideShapes Go.ChangeAt Go.RowKit Go.Proofs.YtigjokkakcmmdaaGreatDoor
def laidQ : List (String × DataW Unit) := Rows.fnPfCountRow.laid
theorem memQ {W : World} (h : laidMetH Tryz.prog laidQ W) : ∃ z b1 b2, Mem W z b1 b2 := by
  rw [MakeChecks.laidMetH_plain _ _ _ (by kernel_rfl)] at h
  have m : ∀ {n : String} {d : DataW Unit}, (n, d) ∈ laidQ → VarReads Tryz.prog W n d := fun hm => Lib.laidMet.reads h hm
  have c108 : Tryz.prog.cellsOf 108 = 1 := by kernel_rfl
  obtain ⟨b1, o1, a1, a2, _, a4⟩ := sliV (g := 0) (t := 112) (e := 90) (k := .i8) (zs := [1, 2, 3, 4, 5, 6, 7, 8, 9, 10, 11, 12]) (by kernel_rfl) (by kernel_rfl) Tryz.underlying112 Tryz.underlying90 (by kernel_rfl) (by decide) (m (n := "pub-tabiya/pub/chess.allPieces") (.tail _ (.tail _ (.tail _ (.tail _ (.tail _ (.tail _ (.tail _ (.tail _ (.head _))))))))))
  obtain ⟨b2, o2, d1, d2, _, d4⟩ := sliV (g := 1) (t := 130) (e := 58) (k := .i8) (zs := [2, 3, 4, 5]) (by kernel_rfl) (by kernel_rfl) Tryz.underlying130 Tryz.underlying58 (by kernel_rfl) (by decide) (m (n := "pub-tabiya/pub/chess.promoPieceTypes") (.tail _ (.head _)))
  have t2 := tabV (g := 2) (t := 143) (zs := bbKnightMoves) (by kernel_rfl) (by kernel_rfl) Tryz.underlying143 Tryz.underlying108 c108 (by kernel_rfl) (m (n := "pub-tabiya/pub/chess.bbKnightMoves") (.tail _ (.tail _ (.tail _ (.tail _ (.tail _ (.tail _ (.head _))))))))
  have t3 := tabV (g := 3) (t := 143) (zs := bbKingMoves) (by kernel_rfl) (by kernel_rfl) Tryz.underlying143 Tryz.underlying108 c108 (by kernel_rfl) (m (n := "pub-tabiya/pub/chess.bbKingMoves") (.tail _ (.tail _ (.tail _ (.tail _ (.tail _ (.tail _ (.tail _ (.head _)))))))))
  have t4 := tabV (g := 4) (t := 143) (zs := bbDiagonals) (by kernel_rfl) (by kernel_rfl) Tryz.underlying143 Tryz.underlying108 c108 (by kernel_rfl) (m (n := "pub-tabiya/pub/chess.bbDiagonals") (.tail _ (.tail _ (.tail _ (.tail _ (.head _))))))
  have t5 := tabV (g := 5) (t := 143) (zs := bbAntiDiagonals) (by kernel_rfl) (by kernel_rfl) Tryz.underlying143 Tryz.underlying108 c108 (by kernel_rfl) (m (n := "pub-tabiya/pub/chess.bbAntiDiagonals") (.tail _ (.tail _ (.tail _ (.tail _ (.tail _ (.head _)))))))
  have t6 := tabV (g := 6) (t := 149) (zs := bbRanks) (by kernel_rfl) (by kernel_rfl) Tryz.underlying149 Tryz.underlying108 c108 (by kernel_rfl) (m (n := "pub-tabiya/pub/chess.bbRanks") (.tail _ (.tail _ (.tail _ (.head _)))))
  have t7 := tabV (g := 7) (t := 149) (zs := bbFiles) (by kernel_rfl) (by kernel_rfl) Tryz.underlying149 Tryz.underlying108 c108 (by kernel_rfl) (m (n := "pub-tabiya/pub/chess.bbFiles") (.tail _ (.tail _ (.head _))))
  obtain ⟨g, t, cs, fuel, p, hg, _, hv, _⟩ := m (n := "unicode/utf8.acceptRanges") (.head _)
  have h11 : 11 < W.heap.size := by
    obtain rfl := Option.some.inj ((show Tryz.prog.globalNamed "unicode/utf8.acceptRanges" = some 11 by kernel_rfl).symm.trans hg)
    unfold World.var? at hv
    rw [hg] at hv
    simp only [Option.bind_some] at hv
    split at hv
    · rename_i h1
      exact (Array.getElem?_eq_some_iff.1 h1).1
    · cases hv
  exact ⟨(o1, o2), b1, b2, a1, d1, t2.1, t3.1, t4.1, t5.1, t6.1, t7.1, a2, d2, by omega, a4, d4⟩
section
variable {H : Type} {enc : TypeId × Value → H} {P : Program} {w w' : World} {base base' : Nat} {sp sp' : Nat → Bool} {held held' : Bool}
theorem trodI_iff {k : IntKind} {t : TypeId} (ht : P.underlying t = some (.int k)) (n : Nat) (cs : List Value) (x : DataW H × List MemPlace) :
    DataW.trod enc P w base sp held (n + 1) t cs = some x ↔ ∃ m, cs = [.int k m] ∧ x = (.lit (.int k m), []) ∧ (Lit.int k m).wf = true := by
  refine ⟨DataW.trod_int ht, ?_⟩
  rintro ⟨m, rfl, rfl, hw⟩
  unfold DataW.trod
  rw [ht]
  simp [hw]
theorem trodI {k : IntKind} {t : TypeId} (ht : P.underlying t = some (.int k)) (n : Nat) (cs : List Value) : DataW.trod enc P w base sp held n t cs = DataW.trod enc P w' base' sp' held' n t cs := by
  cases n with
  | zero => rfl
  | succ n =>
    apply Option.ext
    intro x
    rw [trodI_iff ht, trodI_iff ht]
theorem trodAI {k : IntKind} {t e : TypeId} {m : Nat} (ht : P.underlying t = some (.array m e)) (he : P.underlying e = some (.int k)) (n : Nat) (cs : List Value) : DataW.trod enc P w base sp held n t cs = DataW.trod enc P w' base' sp' held' n t cs := by
  cases n with
  | zero => rfl
  | succ n =>
    unfold DataW.trod
    rw [ht]
    simp only [trodI (w := w) (w' := w') (base := base) (base' := base') (sp := sp) (sp' := sp') (held := held) (held' := held') he]
theorem trodS {t : TypeId} {fs : Array Field} (ht : P.underlying t = some (.struct fs)) (hf : ∀ f ∈ fs.toList, ∀ (n : Nat) (cs : List Value), DataW.trod enc P w base sp held n f.type cs = DataW.trod enc P w' base' sp' held' n f.type cs) (n : Nat) (cs : List Value) :
    DataW.trod enc P w base sp held n t cs = DataW.trod enc P w' base' sp' held' n t cs := by
  cases n with
  | zero => rfl
  | succ n =>
    unfold DataW.trod
    rw [ht]
    have e : ∀ l : List Field, (∀ f ∈ l, f ∈ fs.toList) → l.mapM (fun f => DataW.trod enc P w base sp held n f.type ((cs.drop f.offset).take (P.cellsOf f.type))) = l.mapM (fun f => DataW.trod enc P w' base' sp' held' n f.type ((cs.drop f.offset).take (P.cellsOf f.type))) := by
      intro l hl
      induction l with
      | nil => rfl
      | cons f l ih => rw [List.mapM_cons, List.mapM_cons, hf f (hl f (.head _)), ih fun g hg => hl g (.tail _ hg)]
    simp only [e fs.toList fun f hf => hf]
end
theorem trodP {H : Type} {enc : TypeId × Value → H} {w w' : World} {base base' : Nat} {sp sp' : Nat → Bool} {held held' : Bool} {v : Value} {d : DataW H} {p : List MemPlace}
    (h : DataW.Trod enc Tryz.prog w base sp held 24 v d p) : DataW.Trod enc Tryz.prog w' base' sp' held' 24 v d p := by
  obtain ⟨fuel, h⟩ := h
  refine ⟨fuel, ?_⟩
  rw [← h]
  symm
  refine trodS Tryz.underlying24 (fun f hf n cs => ?_) fuel _
  simp only [List.mem_cons, List.not_mem_nil, or_false] at hf
  rcases hf with rfl | rfl | rfl | rfl | rfl | rfl
  · exact trodAI Tryz.underlying22 Tryz.underlying3 n cs
  all_goals exact trodI Tryz.underlying3 n cs
theorem openP {W : World} {r : Reach} {base : Nat} {v : Value} (h : Value.okWide Tryz.prog W r base 24 v) : ∃ c, v = posV c := by
  unfold Value.okWide at h
  rw [Tryz.underlying24] at h
  obtain ⟨cs, rfl, hl, ts, hts, _, hcell⟩ := h
  have h69 : Tryz.prog.cellsOf 24 = 69 := by kernel_rfl
  have hts' : ts = List.replicate 69 3 := Option.some.inj (hts.symm.trans (by kernel_rfl))
  subst hts'
  rw [h69] at hl
  have hi : ∀ i : Nat, i < 69 → ∃ n, cs[i]? = some (.int .i64 n) := by
    intro i hi
    obtain ⟨v, hv⟩ : ∃ v, cs[i]? = some v := ⟨cs[i], Array.getElem?_eq_getElem (by omega)⟩
    obtain ⟨u, hu, hc⟩ := hcell i v hv
    rw [List.length_replicate, Nat.mod_eq_of_lt hi, List.getElem?_replicate, if_pos hi] at hu
    simp only [Option.some.injEq] at hu
    subst hu
    rw [hv]
    unfold Cell.okWide at hc
    rw [Tryz.underlying3] at hc
    cases v <;> simp_all [Cell.ok]
  refine ⟨fun i => match cs[i]? with | some (.int _ n) => n | _ => 0, ?_⟩
  unfold posV
  congr 1
  apply Array.ext_getElem?
  intro i
  by_cases h : i < 69
  · obtain ⟨n, hn⟩ := hi i h
    rw [hn, List.getElem?_toArray, ints_get h, hn]
  · rw [Array.getElem?_eq_none (by omega), Array.getElem?_eq_none (by simp [ints]; omega)]
end Go.Tb
end
