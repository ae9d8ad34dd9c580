/-
  A part of the proof (my own): of the texts that the claim's last text rests on: parts R5, P22.
-/
import Derived.Test.YtigjokkakcmmdaaGreatDoorU03
import Derived.Test.YtigjokkakcmmdaaGreatDoorT27
import Derived.Test.YtigjokkakcmmdaaGreatDoorT28
import Derived.Test.YtigjokkakcmmdaaGreatDoorU01
set_option linter.unusedSimpArgs false
set_option linter.unusedVariables false
section
namespace Go.Tb
open Go Go.Proofs
variable {z : Nat × Nat}
set_option maxRecDepth 20000
theorem pt_ok : ∀ d : Nat, d + 1 ≤ 5 → PtC z (d + 1)
  | 0, _ => pt_ok1
  | d + 1, h => pt_okS d h (pt_ok d (by omega))
theorem F20_ok (cap : Array Value) (w : World) (hc : cap.size = 2) : CallsD Tryz.prog 20 cap .returning w fun e u' w' => u' = .returning ∧ (∃ v, e = .returned v) ∧ w' = w := by
  obtain ⟨x, y, rfl⟩ := arr2 hc
  refine callsD_of_wpS Tryz.func20 rfl fun c₀ cs hu => ?_
  apply wpS_seq
  apply wpS_region
  simp [wpOpsS, go_sem, recoverD, hu, Tryz.ntmps20, Exit.thenS]
  refine wpS_cond (t := false) (by simp [Act.eval, Array.replicate]) ?_
  simp only [Bool.false_eq_true, if_false]
  refine wpS_of_wp (wp_skip ?_)
  cases c₀
  simp_all [bodyPostS, results, Tryz.results20]
attribute [local irreducible] stC brdC posC crT ptN in
set_option maxHeartbeats 4000000 in
theorem PerftTags_ok (c : Nat → Int) (d : Nat) (hd : d + 1 ≤ 5) (hc : PosIn c) (hp : PtOk (d + 1) (stC c)) : FnP (Tz z) 10 [posV c, .int .i64 ((d + 1 : Nat) : Int)] (.tuple [.agg (ints .i64 8 (ptN (d + 1) (stC c))).toArray, .bool true].toArray) := by
  have hpf := pt_ok (z := z) d hd
  unfold PtC at hpf
  have h5 : (220 : Int) ^ (d + 1) ≤ 220 ^ 5 := pow_le5 hd
  have hpf := hpf (stC c) zeroF hp (fun i => ⟨Int.le_refl 0, by show (0 : Int) + _ ≤ _; omega⟩)
  have hz : (fun i => zeroF i + ptN (d + 1) (stC c) i) = ptN (d + 1) (stC c) := funext fun i => by show (0 : Int) + _ = _; omega
  rw [hz] at hpf
  refine ⟨by simp [posV_pl, Pl.int], ask_res _ _, ?_⟩
  refine startD (N := 19) (g := 20) (fn := Tryz.f10) [0, 1, 2, 4, 5, 12] 2 [(0, posV c), (1, .int .i64 ((d + 1 : Nat) : Int)), (2, .pointer (some ⟨100, 0, none⟩)), (4, .pointer (some ⟨101, 0, none⟩)), (5, .pointer (some ⟨102, 0, none⟩))] [.cells (ints .i64 69 c) 24, .cells (ints .i64 8 zeroF) 28, .cells [.bool false] 4] Tryz.func10 rfl rfl rfl (by kernel_rfl) (by kernel_rfl) (by simp) ?_ ?_ (by kernel_rfl) (fun cap w h => F20_ok cap w h) (fun D => ?_)
  · unfold posV
    repeat' (first | with_reducible refine seq_k fun K hK => ?_ | (with_reducible refine hK _ _ ?_; clear hK) | ((with_reducible first | refine gd_dec ?_ ?_ | refine gd_ndec ?_ ?_ | refine qC_dec ?_ ?_ | refine qC_ndec ?_ ?_ | refine piC_dec ?_ ?_ | refine piC_ndec ?_ ?_ | refine zC_dec ?_ ?_ | refine zC_ndec ?_ ?_ | refine zD_dec ?_ ?_ | refine yC_dec ?_ ?_ | refine yC_ndec ?_ ?_ | refine if_dec ?_ ?_ | refine if_ndec ?_ ?_) <;> intro hh) | simp -implicitDefEqProofs (disch := first | omega | assumption) only [go_sem, ↓reduceIte, Nat.reduceEqDiff, Int.reduceEq, Nat.reduceAdd, Nat.reduceSub, Nat.reduceMul, Nat.mul_one, Nat.one_mul, List.length_nil, List.length_cons, List.nil_append, List.cons_append, List.length_append, List.set_cons_zero, List.set_cons_succ, Nat.zero_add, Nat.sub_zero, Option.isNone_none, Option.isNone_some, Int.toNat_natCast, Nat.add_sub_cancel_left, Bool.not_true, Bool.not_false, BitVec.reduceOfInt, Int.reduceToNat, zero8] | ((with_reducible first | refine gd_bool ?_ ?_ | refine if_bool ?_ ?_ | refine qC_bool ?_ ?_ | refine piC_bool ?_ ?_ | refine zC_bool ?_ ?_ | refine zD_bool ?_ ?_ | refine yC_bool ?_ ?_) <;> intro hh) | clear hK)
    exact ⟨trivial, trivial, trivial⟩
  · intro a w h1 h2
    apply wp_region
    have hmf : ∀ (fn : Fn) (first cap : Array Value) (w : World), (Instr.makeFunc fn first cap).run Tryz.prog w = .ok (.func fn first cap) w := fun _ _ _ _ => rfl
    simp [Go.wpOps, go_sem, hmf, h1, h2]
    refine .inl (.inl fun t v hv => ?_)
    rw [Array.getElem?_setIfInBounds_ne]
    rintro rfl
    simp at hv
  · have h1 : ¬ ((d + 1 : Nat) : Int) < 1 := by omega
    have h2 : ¬ (5 : Int) < ((d + 1 : Nat) : Int) := by omega
    unfold posV
    repeat' (first | ((with_reducible refine call_fr (position_ok c hc.bd hc.turn hc.cast hc.ep hc.half hc.full) [] ?_ ?_ ?_ ?_); (· kernel_rfl); (· exact trivial); (· kernel_rfl); intro xx hx; simp -implicitDefEqProofs only [fixL_eq, setAll_cons, setAll_nil, setAll_nil2, List.map_cons, List.map_nil, rn_cells, rn_ro, rn_any, rn_obj, boardL_map, mvL_map, psL_map, map_ints, List.set_cons_zero, List.set_cons_succ, List.length_cons, List.length_nil, List.drop_succ_cons, List.drop_zero, List.drop_nil, List.append_nil, List.nil_append, List.cons_append, rl_tuple, rl_int, rl_bool, rl_string, rl_ptr, rl_ptr0, rl_slice, rl_slice0, rl_agg, List.map_toArray, Array.map_empty, List.length_append, Nat.zero_add, Nat.reduceAdd, sig, Nat.reduceLT, Nat.reduceSub, ↓reduceIte, List.getElem?_cons_zero, List.getElem?_cons_succ, List.getElem?_nil, Nat.reduceAdd, Nat.add_zero, Nat.sub_self]) | ((with_reducible refine call_fr (hpf) [8, 7, 1] ?_ ?_ ?_ ?_); (· kernel_rfl); (· exact ⟨by kernel_rfl, by kernel_rfl, by kernel_rfl, trivial⟩); (· kernel_rfl); intro xx hx; simp -implicitDefEqProofs only [fixL_eq, setAll_cons, setAll_nil, setAll_nil2, List.map_cons, List.map_nil, rn_cells, rn_ro, rn_any, rn_obj, boardL_map, mvL_map, psL_map, map_ints, List.set_cons_zero, List.set_cons_succ, List.length_cons, List.length_nil, List.drop_succ_cons, List.drop_zero, List.drop_nil, List.append_nil, List.nil_append, List.cons_append, rl_tuple, rl_int, rl_bool, rl_string, rl_ptr, rl_ptr0, rl_slice, rl_slice0, rl_agg, List.map_toArray, Array.map_empty, List.length_append, Nat.zero_add, Nat.reduceAdd, sig, Nat.reduceLT, Nat.reduceSub, ↓reduceIte, List.getElem?_cons_zero, List.getElem?_cons_succ, List.getElem?_nil, Nat.reduceAdd, Nat.add_zero, Nat.sub_self]) | with_reducible refine seq_k fun K hK => ?_ | (with_reducible refine hK _ _ ?_; clear hK) | ((with_reducible first | refine gd_dec ?_ ?_ | refine gd_ndec ?_ ?_ | refine qC_dec ?_ ?_ | refine qC_ndec ?_ ?_ | refine piC_dec ?_ ?_ | refine piC_ndec ?_ ?_ | refine zC_dec ?_ ?_ | refine zC_ndec ?_ ?_ | refine zD_dec ?_ ?_ | refine yC_dec ?_ ?_ | refine yC_ndec ?_ ?_ | refine if_dec ?_ ?_ | refine if_ndec ?_ ?_) <;> intro hh) | simp -implicitDefEqProofs (disch := first | omega | assumption) only [go_sem, ↓reduceIte, Nat.reduceEqDiff, Int.reduceEq, Nat.reduceAdd, Nat.reduceSub, Nat.reduceMul, Nat.mul_one, Nat.one_mul, List.length_nil, List.length_cons, List.nil_append, List.cons_append, List.length_append, List.set_cons_zero, List.set_cons_succ, Nat.zero_add, Nat.sub_zero, Option.isNone_none, Option.isNone_some, Int.toNat_natCast, Nat.add_sub_cancel_left, Bool.not_true, Bool.not_false, BitVec.reduceOfInt, Int.reduceToNat, onGd_T, onGd_F, pickV_T, pickV_F, wr_o1, wr_o1b, decT, decF, zero8, sub_ints, wr_i8] | ((with_reducible first | refine gd_bool ?_ ?_ | refine if_bool ?_ ?_ | refine qC_bool ?_ ?_ | refine piC_bool ?_ ?_ | refine zC_bool ?_ ?_ | refine zD_bool ?_ ?_ | refine yC_bool ?_ ?_) <;> intro hh) | clear hK)
    all_goals first
      | rfl
set_option maxHeartbeats 4000000 in
theorem tags_n {c : Nat → Int} {n : Int} (h : ¬ AskC c n) : FnP (Tz z) 4 [posV c, .int .i64 n] (.bool true) := by
  refine ⟨by simp [posV_pl, Pl.int], Pl.bool, start [0, 1, 2, 4, 5, 6, 7, 8, 16] Tryz.func4 rfl (by decide) rfl (by kernel_rfl) (by simp [Tryz.f4]) ?_⟩
  simp only [Tryz.f4]
  unfold posV
  repeat' (first | (with_reducible first | refine call_p (pfTally_F (by assumption)) ?_ | refine qG_call (pfTally_F (by assumption)) ?_ | refine zG_call (pfTally_F (by assumption)) ?_ | refine yG_call (pfTally_F (by assumption)) ?_ | refine piG_call (pfTally_F (by assumption)) ?_ | refine seq_k fun K hK => ?_) | (with_reducible refine hK _ _ ?_; clear hK) | ((with_reducible first | refine gd_dec ?_ ?_ | refine gd_ndec ?_ ?_ | refine qC_dec ?_ ?_ | refine qC_ndec ?_ ?_ | refine piC_dec ?_ ?_ | refine piC_ndec ?_ ?_ | refine zC_dec ?_ ?_ | refine zC_ndec ?_ ?_ | refine zD_dec ?_ ?_ | refine yC_dec ?_ ?_ | refine yC_ndec ?_ ?_ | refine if_dec ?_ ?_ | refine if_ndec ?_ ?_) <;> intro hh) | simp -implicitDefEqProofs (disch := first | omega | assumption) only [go_sem, ↓reduceIte, Nat.reduceEqDiff, Int.reduceEq, Nat.reduceAdd, Nat.reduceSub, Nat.reduceMul, Nat.mul_one, Nat.one_mul, List.length_nil, List.length_cons, List.nil_append, List.cons_append, List.length_append, List.set_cons_zero, List.set_cons_succ, Nat.zero_add, Nat.sub_zero, Option.isNone_none, Option.isNone_some, Int.toNat_natCast, Nat.add_sub_cancel_left, Bool.not_true, Bool.not_false, BitVec.reduceOfInt, Int.reduceToNat, onGd_T, onGd_F, pickV_T, pickV_F, decT, decF, zero8, sub_ints, wr_i8, wr_1i] | ((with_reducible first | refine gd_bool ?_ ?_ | refine if_bool ?_ ?_ | refine qC_bool ?_ ?_ | refine piC_bool ?_ ?_ | refine zC_bool ?_ ?_ | refine zD_bool ?_ ?_ | refine yC_bool ?_ ?_) <;> intro hh) | clear hK)
  all_goals first
    | rfl
set_option maxHeartbeats 4000000 in
theorem tags_d {c : Nat → Int} {d : Nat} (hr : RightC c) (hd : d + 1 ≤ 5) (hp : PosD (d + 1) c) (hl : (tallyF (d + 1) c 6000).2.1 = true → PtOk (d + 1) (stC c) ∧ ints .i64 8 (ptN (d + 1) (stC c)) = ints .i64 8 (tallyF (d + 1) c 6000).1) : FnP (Tz z) 4 [posV c, .int .i64 ((d + 1 : Nat) : Int)] (.bool true) := by
  have hpr := hr.posIn
  have ht := pfTally_T (z := z) hr hd hp
  cases hb : (tallyF (d + 1) c 6000).2.1
  · rw [hb] at ht
    refine ⟨by simp [posV_pl, Pl.int], Pl.bool, start [0, 1, 2, 4, 5, 6, 7, 8, 16] Tryz.func4 rfl (by decide) rfl (by kernel_rfl) (by simp [Tryz.f4]) ?_⟩
    simp only [Tryz.f4]
    unfold posV
    repeat' (first | (with_reducible first | refine call_p (ht) ?_ | refine qG_call (ht) ?_ | refine zG_call (ht) ?_ | refine yG_call (ht) ?_ | refine piG_call (ht) ?_ | refine seq_k fun K hK => ?_) | (with_reducible refine hK _ _ ?_; clear hK) | ((with_reducible first | refine gd_dec ?_ ?_ | refine gd_ndec ?_ ?_ | refine qC_dec ?_ ?_ | refine qC_ndec ?_ ?_ | refine piC_dec ?_ ?_ | refine piC_ndec ?_ ?_ | refine zC_dec ?_ ?_ | refine zC_ndec ?_ ?_ | refine zD_dec ?_ ?_ | refine yC_dec ?_ ?_ | refine yC_ndec ?_ ?_ | refine if_dec ?_ ?_ | refine if_ndec ?_ ?_) <;> intro hh) | simp -implicitDefEqProofs (disch := first | omega | assumption) only [go_sem, ↓reduceIte, Nat.reduceEqDiff, Int.reduceEq, Nat.reduceAdd, Nat.reduceSub, Nat.reduceMul, Nat.mul_one, Nat.one_mul, List.length_nil, List.length_cons, List.nil_append, List.cons_append, List.length_append, List.set_cons_zero, List.set_cons_succ, Nat.zero_add, Nat.sub_zero, Option.isNone_none, Option.isNone_some, Int.toNat_natCast, Nat.add_sub_cancel_left, Bool.not_true, Bool.not_false, BitVec.reduceOfInt, Int.reduceToNat, onGd_T, onGd_F, pickV_T, pickV_F, decT, decF, zero8, sub_ints, wr_i8, wr_1i] | ((with_reducible first | refine gd_bool ?_ ?_ | refine if_bool ?_ ?_ | refine qC_bool ?_ ?_ | refine piC_bool ?_ ?_ | refine zC_bool ?_ ?_ | refine zD_bool ?_ ?_ | refine yC_bool ?_ ?_) <;> intro hh) | clear hK)
    all_goals first
      | rfl
  · rw [hb] at ht
    obtain ⟨h1, h2⟩ := hl hb
    have hpf := PerftTags_ok (z := z) c d hd hpr h1
    rw [h2] at hpf
    refine ⟨by simp [posV_pl, Pl.int], Pl.bool, start [0, 1, 2, 4, 5, 6, 7, 8, 16] Tryz.func4 rfl (by decide) rfl (by kernel_rfl) (by simp [Tryz.f4]) ?_⟩
    simp only [Tryz.f4]
    unfold posV
    repeat' (first | (with_reducible first | refine call_p (ht) ?_ | refine qG_call (ht) ?_ | refine zG_call (ht) ?_ | refine yG_call (ht) ?_ | refine piG_call (ht) ?_ | refine call_p (hpf) ?_ | refine qG_call (hpf) ?_ | refine zG_call (hpf) ?_ | refine yG_call (hpf) ?_ | refine piG_call (hpf) ?_ | refine seq_k fun K hK => ?_) | (with_reducible refine hK _ _ ?_; clear hK) | ((with_reducible first | refine gd_dec ?_ ?_ | refine gd_ndec ?_ ?_ | refine qC_dec ?_ ?_ | refine qC_ndec ?_ ?_ | refine piC_dec ?_ ?_ | refine piC_ndec ?_ ?_ | refine zC_dec ?_ ?_ | refine zC_ndec ?_ ?_ | refine zD_dec ?_ ?_ | refine yC_dec ?_ ?_ | refine yC_ndec ?_ ?_ | refine if_dec ?_ ?_ | refine if_ndec ?_ ?_) <;> intro hh) | simp -implicitDefEqProofs (disch := first | omega | assumption) only [go_sem, ↓reduceIte, Nat.reduceEqDiff, Int.reduceEq, Nat.reduceAdd, Nat.reduceSub, Nat.reduceMul, Nat.mul_one, Nat.one_mul, List.length_nil, List.length_cons, List.nil_append, List.cons_append, List.length_append, List.set_cons_zero, List.set_cons_succ, Nat.zero_add, Nat.sub_zero, Option.isNone_none, Option.isNone_some, Int.toNat_natCast, Nat.add_sub_cancel_left, Bool.not_true, Bool.not_false, BitVec.reduceOfInt, Int.reduceToNat, onGd_T, onGd_F, pickV_T, pickV_F, decT, decF, zero8, sub_ints, wr_i8, wr_1i, e_28s] | ((with_reducible first | refine gd_bool ?_ ?_ | refine if_bool ?_ ?_ | refine qC_bool ?_ ?_ | refine piC_bool ?_ ?_ | refine zC_bool ?_ ?_ | refine zD_bool ?_ ?_ | refine yC_bool ?_ ?_) <;> intro hh) | clear hK)
    all_goals first
      | rfl
end Go.Tb
end
section
namespace Go.Tb
open Go Go.Proofs
set_option maxRecDepth 20000
attribute [local irreducible] tg4 madeC updB attB inChk
section
variable {c : Nat → Int} {s : PSt} {M : Mv}
theorem has_0 (hs : RepS c s) (hi : InvC c) : hasN s.1 s.2.1 s.2.2 = 0 ↔ (legL c).length = 0 := by
  have hp := (all_perm hs hi).length_eq
  rw [List.length_map] at hp
  have h1 := allL_len s.1 s.2.1 s.2.2
  unfold hasN
  rw [List.length_take]
  unfold allS at hp
  omega
theorem tag_law (hs : RepS c s) (hi : InvC c) (hM : M ∈ allS s) (hd : dbtB c (toM M) = false) {i : Nat} (h8 : i < 8) : p1 s M i = tagI c (toM M) i := by
  have hb := all_bits hs hi hM
  have hmk := all_mok hs hi hM
  have hs' := rep_step hs hi hM hd
  have hi' := inv_step hi hmk.kind hmk.leg
  have h64 := hi'.turn
  obtain ⟨k, k1, k2, k3, k4⟩ := hi'.kingAt (b := madeM c (toM M) 64) (by omega)
  have hck : tagOn M 16 = ckB c (toM M) := by
    have h1 : tagOn M 16 = attB (madeM c (toM M)) (kingI (madeM c (toM M)) (madeM c (toM M) 64)) (1 - madeM c (toM M) 64) := hs'.chk
    rw [h1]
    unfold ckB chkB
    rw [decide_eq_true (by rw [k3]; omega), Bool.true_and]
  have hchk : (nxt s M).2.1.chk = ckB c (toM M) := hck
  have hst : stS (nxt s M) = if (legL (madeM c (toM M))).length = 0 then (if ckB c (toM M) = true then 1 else 4) else 0 := by
    have h0 := has_0 hs' hi'
    unfold stS stI
    rw [hchk]
    by_cases hl : (legL (madeM c (toM M))).length = 0
    · rw [if_pos hl, if_pos (h0.2 hl)]
    · rw [if_neg hl, if_neg (fun e => hl (h0.1 e))]
  have hfl : i ≠ 0 → flagP M (stS (nxt s M)) i = flagB c (toM M) i := by
    intro h0
    have : i = 1 ∨ i = 2 ∨ i = 3 ∨ i = 4 ∨ i = 5 ∨ i = 6 ∨ i = 7 := by omega
    rcases this with rfl | rfl | rfl | rfl | rfl | rfl | rfl
    · exact hb.t48
    · exact hb.t8
    · exact hb.t12
    · rfl
    · exact hck
    · show decide (stS (nxt s M) = 1) = (ckB c (toM M) && decide ((legL (madeM c (toM M))).length = 0))
      rw [hst]
      by_cases hl : (legL (madeM c (toM M))).length = 0 <;> cases ckB c (toM M) <;> simp [hl]
    · show decide (stS (nxt s M) = 4) = (!ckB c (toM M) && decide ((legL (madeM c (toM M))).length = 0))
      rw [hst]
      by_cases hl : (legL (madeM c (toM M))).length = 0 <;> cases ckB c (toM M) <;> simp [hl]
  unfold p1 tagI
  by_cases h0 : i = 0
  · subst h0
    rw [show flagP M (stS (nxt s M)) 0 = true from rfl, show flagB c (toM M) 0 = false from rfl]; rfl
  · rw [hfl h0, if_neg h0]; omega
end
theorem tLoop_all {G : M3 → Int → TR} {cnt : Mv → Nat → Int} {good : Mv → Prop} : ∀ (l : List Mv) (n : Nat → Int) (w : Int), (tLoop G (l.map toM) n w).2.1 = true → (∀ M ∈ l, ∀ w, (G (toM M) w).2.1 = true → good M ∧ ∀ i, i < 8 → (G (toM M) w).1 i = cnt M i) →
    (∀ M ∈ l, good M) ∧ ∀ i, i < 8 → (tLoop G (l.map toM) n w).1 i = n i + sumL (fun M => cnt M i) l
  | [], n, w, _, _ => ⟨fun M hM => (by cases hM), fun i _ => by simp [tLoop, sumL]⟩
  | M :: l, n, w, h, hG => by
    rw [List.map_cons, tLoop] at h ⊢
    by_cases hx : (G (toM M) w).2.1 = true
    · rw [if_pos hx] at h ⊢
      obtain ⟨g1, g2⟩ := hG M (by simp) w hx
      obtain ⟨a1, a2⟩ := tLoop_all l _ _ h fun M' hM' => hG M' (by simp [hM'])
      refine ⟨fun M' hM' => ?_, fun i h8 => ?_⟩
      · rcases List.mem_cons.1 hM' with rfl | hM'
        · exact g1
        · exact a1 M' hM'
      · rw [a2 i h8, g2 i h8, sumL]; omega
    · rw [if_neg hx] at h; cases h
theorem ptN_L1 (s : PSt) (i : Nat) : ptN 1 s i = sumL (fun M => p1 s M i) (allS s) := by
  rw [ptN_1, sumK_L (fun M => p1 s M i) (allS s) _ (Nat.le_refl _), List.take_length]
theorem ptN_LS (d : Nat) (s : PSt) (i : Nat) : ptN (d + 2) s i = sumL (fun M => ptN (d + 1) (nxt s M) i) (allS s) := by
  rw [ptN_S, sumK_L (fun M => ptN (d + 1) (nxt s M) i) (allS s) _ (Nat.le_refl _), List.take_length]
def TagC (d : Nat) : Prop := ∀ (c : Nat → Int) (s : PSt) (w N : Int), InvC c → RepS c s → (0 ≤ s.2.1.half ∧ s.2.1.half ≤ N) → (0 ≤ s.2.1.mc ∧ s.2.1.mc ≤ N) → N + (d + 1) ≤ 1000000 → (tallyF (d + 1) c w).2.1 = true → PtOk (d + 1) s ∧ ∀ i, i < 8 → ptN (d + 1) s i = (tallyF (d + 1) c w).1 i
theorem gOne_all {c : Nat → Int} {m : M3} {w : Int} (h : (gOne c m w).2.1 = true) : dbtB c m = false ∧ ¬ 218 < (legL (madeM c m)).length ∧ (gOne c m w).1 = tagI c m := by
  unfold gOne at h ⊢
  split at h
  · cases h
  · rename_i h1
    rw [if_neg h1]
    split at h
    · cases h
    · rename_i h2
      rw [if_neg h2]
      refine ⟨?_, h2, rfl⟩
      cases hx : dbtB c m
      · rfl
      · exact absurd (.inr hx) h1
theorem gMore_all {d : Nat} {c : Nat → Int} {m : M3} {w : Int} (h : (gMore d c m w).2.1 = true) : dbtB c m = false ∧ (tallyF (d + 1) (madeM c m) (w - 1)).2.1 = true ∧ (gMore d c m w).1 = (tallyF (d + 1) (madeM c m) (w - 1)).1 := by
  unfold gMore at h ⊢
  split at h
  · cases h
  · rename_i h1
    rw [if_neg h1]
    refine ⟨?_, h, rfl⟩
    cases hx : dbtB c m
    · rfl
    · exact absurd (.inr hx) h1
attribute [local irreducible] ptN tallyF sumL allS legL tLoop gOne gMore nxt p1 tagI
theorem tag_0 : TagC 0 := by
  intro c s w N hi hs hh hm hN h
  rw [Nat.zero_add] at h ⊢
  rw [tally_1] at h ⊢
  by_cases hl : 218 < (legL c).length
  · rw [if_pos hl] at h; cases h
  · rw [if_neg hl] at h ⊢
    have hst := st_ok hs hi (by omega) (by omega) (by omega)
    obtain ⟨l', hp, hmap⟩ := perm_lift (all_perm hs hi) (allS s) rfl
    rw [← hmap] at h ⊢
    obtain ⟨a1, a2⟩ := tLoop_all (G := gOne c) (cnt := fun M => p1 s M) (good := fun M => StOk (nxt s M)) l' zeroF w h fun M hM w' hG => by
      have hM' : M ∈ allS s := hp.mem_iff.2 hM
      obtain ⟨q1, q2, q3⟩ := gOne_all hG
      have hmk := all_mok hs hi hM'
      have hn1 : 0 ≤ (nxt s M).2.1.half ∧ (nxt s M).2.1.half ≤ N + 1 := nxt_half s M hh
      have hn2 : 0 ≤ (nxt s M).2.1.mc ∧ (nxt s M).2.1.mc ≤ N + 1 := nxt_mc s M hm
      refine ⟨st_ok (rep_step hs hi hM' q1) (inv_step hi hmk.kind hmk.leg) (by omega) (by omega) (by omega), fun i h8 => ?_⟩
      rw [q3, tag_law hs hi hM' q1 h8]
    refine ⟨⟨hst, fun M hM => ⟨all_mvOk hs hi hM, a1 M (hp.mem_iff.1 hM)⟩⟩, fun i h8 => ?_⟩
    rw [a2 i h8, zeroF_at, ← sumL_perm hp]
    exact ptN_L1 s i
theorem tag_S {d : Nat} (ih : TagC d) : TagC (d + 1) := by
  intro c s w N hi hs hh hm hN h
  rw [tally_S] at h ⊢
  by_cases hl : 218 < (legL c).length
  · rw [if_pos hl] at h; cases h
  · rw [if_neg hl] at h ⊢
    have hst := st_ok hs hi (by omega) (by omega) (by omega)
    obtain ⟨l', hp, hmap⟩ := perm_lift (all_perm hs hi) (allS s) rfl
    rw [← hmap] at h ⊢
    obtain ⟨a1, a2⟩ := tLoop_all (G := gMore d c) (cnt := fun M i => ptN (d + 1) (nxt s M) i) (good := fun M => PtOk (d + 1) (nxt s M)) l' zeroF w h fun M hM w' hG => by
      have hM' : M ∈ allS s := hp.mem_iff.2 hM
      obtain ⟨q1, q2, q3⟩ := gMore_all hG
      have hmk := all_mok hs hi hM'
      have hn1 : 0 ≤ (nxt s M).2.1.half ∧ (nxt s M).2.1.half ≤ N + 1 := nxt_half s M hh
      have hn2 : 0 ≤ (nxt s M).2.1.mc ∧ (nxt s M).2.1.mc ≤ N + 1 := nxt_mc s M hm
      obtain ⟨b1, b2⟩ := ih (madeM c (toM M)) (nxt s M) (w' - 1) (N + 1) (inv_step hi hmk.kind hmk.leg) (rep_step hs hi hM' q1) hn1 hn2 (by omega) q2
      exact ⟨b1, fun i h8 => by rw [q3, b2 i h8]⟩
    refine ⟨⟨hst, fun M hM => ⟨all_mvOk hs hi hM, a1 M (hp.mem_iff.1 hM)⟩⟩, fun i h8 => ?_⟩
    rw [a2 i h8, zeroF_at, ← sumL_perm hp]
    exact ptN_LS d s i
theorem tag_count : ∀ d : Nat, TagC d
  | 0 => tag_0
  | d + 1 => tag_S (tag_count d)
theorem tags_law {c : Nat → Int} {d : Nat} (hr : RightC c) (hd : d + 1 ≤ 5) (h : (tallyF (d + 1) c 6000).2.1 = true) : PtOk (d + 1) (stC c) ∧ ints .i64 8 (ptN (d + 1) (stC c)) = ints .i64 8 (tallyF (d + 1) c 6000).1 := by
  have hi := inv_of_valid hr.v
  have h1 := hr.v.half
  have h2 := hr.v.full
  have h3 := hr.half
  have h4 := hr.full
  obtain ⟨a, b⟩ := tag_count d c (stC c) 6000 1000 hi (rep_init hi) ⟨h1, h3⟩ ⟨show 0 ≤ c 68 by omega, h4⟩ (by omega) h
  exact ⟨a, ints_congr b⟩
theorem FnPfTags_ok (z : Nat × Nat) (c : Nat → Int) (n : Int) : FnP (Tz z) 4 [posV c, .int .i64 n] (.bool true) := by
  by_cases ha : AskC c n
  · obtain ⟨hr, h1, h5⟩ := ha
    obtain ⟨d, hd⟩ : ∃ d : Nat, n = ((d + 1 : Nat) : Int) := ⟨(n - 1).toNat, by omega⟩
    subst hd
    exact tags_d hr (by omega) (posD_right hr (by omega)) fun h => tags_law hr (by omega) h
  · exact tags_n ha
end Go.Tb
end
