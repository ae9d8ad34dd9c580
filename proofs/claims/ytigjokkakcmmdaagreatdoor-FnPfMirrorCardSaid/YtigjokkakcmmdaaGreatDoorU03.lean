/-
  A part of the proof (my own): of the texts that the claim's last text rests on: parts R2, R3, R4, Eq, R5.
-/
import Derived.ChangeKeysEq
import Derived.Test.YtigjokkakcmmdaaGreatDoorU02
import Derived.Test.YtigjokkakcmmdaaGreatDoorT25
import Derived.Test.YtigjokkakcmmdaaGreatDoorT26
import Derived.Test.YtigjokkakcmmdaaGreatDoorT27
import Derived.Test.YtigjokkakcmmdaaGreatDoorT08
import Derived.Test.YtigjokkakcmmdaaGreatDoorT28
set_option linter.unusedSimpArgs false
set_option linter.unusedVariables false
section
namespace Go.Tb
open Go Go.Proofs
variable {z : Nat × Nat}
set_option maxRecDepth 20000
def hasN (l : List UInt8) (D : Pd) (B : Brd) : Nat := ((stdL D B).take 1).length + (csL l D B 4).length
attribute [local irreducible] stdL csL in
set_option maxHeartbeats 8000000 in
theorem calc1_ok (l : List UInt8) (D : Pd) (B : Brd) (hcl : l.length ≤ 1000) (hcr : D.cr = byt l) (he : -1 ≤ D.ep ∧ D.ep ≤ 63) (ht : D.turn = 1 ∨ D.turn = 2) (hw : -1 ≤ B.wks ∧ B.wks ≤ 63) (hb : -1 ≤ B.bks ∧ B.bks ≤ 63) :
    FnM (Tz z) 42 [.agg #[], .pointer (some ⟨100, 0, none⟩), .bool true] [.cells (psL 101 nilS D) 82, .cells (boardL B) 110] (fun p : List Value × TypeId × Nat => ∀ v ∈ p.1, Pl v) (fun p => .slice (some ⟨102, 0, none⟩) (hasN l D B) p.2.2) (fun p => [.cells (psL 101 nilS D) 82, .cells (boardL B) 110, .cells p.1 p.2.1]) := by
  refine ⟨?_, pb_wl D B, fun _ _ o ho => ?_, CallM.shiftX (start [0, 1, 2, 6, 7] Tryz.func42 rfl (by decide) rfl (by kernel_rfl) (by simp [Tryz.f42]) ?_)⟩
  · intro u hu
    simp only [List.mem_cons, List.not_mem_nil, or_false] at hu
    rcases hu with rfl | rfl | rfl
    · exact fun _ _ _ => rfl
    · exact WF_ptrN (by simp)
    · exact wf_bool
  · simp at ho; subst ho; rfl
  simp only [Tryz.f42]
  have h4 := csL_b4 (l := l) (D := D) (B := B)
  have h1 : ((stdL D B).take 1).length ≤ 1 := by rw [List.length_take]; omega
  repeat' (first | ((with_reducible refine call_fr (std1_ok D B he ht hw hb) [0, 1] ?_ ?_ ?_ ?_); (· kernel_rfl); (· exact ⟨by kernel_rfl, by kernel_rfl, trivial⟩); (· kernel_rfl); rintro ⟨l1, T1⟩ hx; simp only at hx; subst hx; simp -implicitDefEqProofs only [fixL_eq, setAll_cons, setAll_nil, setAll_nil2, List.map_cons, List.map_nil, rn_cells, rn_ro, rn_any, rn_obj, boardL_map, mvL_map, psL_map, map_ints, List.set_cons_zero, List.set_cons_succ, List.length_cons, List.length_nil, List.drop_succ_cons, List.drop_zero, List.drop_nil, List.append_nil, List.nil_append, List.cons_append, rl_tuple, rl_int, rl_bool, rl_string, rl_ptr, rl_ptr0, rl_slice, rl_slice0, rl_agg, List.map_toArray, Array.map_empty, List.length_append, Nat.zero_add, Nat.reduceAdd, sig, Nat.reduceLT, Nat.reduceSub, ↓reduceIte, List.getElem?_cons_zero, List.getElem?_cons_succ, List.getElem?_nil, Nat.reduceAdd, Nat.add_zero, Nat.sub_self]) | ((with_reducible refine call_fr (castle_ok D B l hcl hcr ht hw hb) [0, 1] ?_ ?_ ?_ ?_); (· kernel_rfl); (· exact ⟨by kernel_rfl, by kernel_rfl, trivial⟩); (· kernel_rfl); intro xx hx; simp -implicitDefEqProofs only [fixL_eq, setAll_cons, setAll_nil, setAll_nil2, List.map_cons, List.map_nil, rn_cells, rn_ro, rn_any, rn_obj, boardL_map, mvL_map, psL_map, map_ints, List.set_cons_zero, List.set_cons_succ, List.length_cons, List.length_nil, List.drop_succ_cons, List.drop_zero, List.drop_nil, List.append_nil, List.nil_append, List.cons_append, rl_tuple, rl_int, rl_bool, rl_string, rl_ptr, rl_ptr0, rl_slice, rl_slice0, rl_agg, List.map_toArray, Array.map_empty, List.length_append, Nat.zero_add, Nat.reduceAdd, sig, Nat.reduceLT, Nat.reduceSub, ↓reduceIte, List.getElem?_cons_zero, List.getElem?_cons_succ, List.getElem?_nil, Nat.reduceAdd, Nat.add_zero, Nat.sub_self]) | ((with_reducible refine app_k ?_); refine app_own (X := Tz z) (i := 3) (e := 60) (sz := 11) (b := 96) (T := T1) (m := (csL l D B 4).length) (con := vsL ((stdL D B).take 1)) (tl := []) (n := ((stdL D B).take 1).length) (zc := mvL zMv) (news := vsL (csL l D B 4)) (by kernel_rfl) (by kernel_rfl) rfl (src_vs (j := 4) (N := 2) rfl (by kernel_rfl)) (vsL_one' _) (vsL_len _) (by rw [List.append_nil]; rfl) (vsL_len _) (by rw [List.append_nil]; exact vsL_len _) (Nat.le_refl _) (fun _ => ?_) (fun _ => ⟨by omega, by omega, fun c' hc' => ?_⟩)) | with_reducible refine seq_k fun K hK => ?_ | (with_reducible refine hK _ _ ?_; clear hK) | ((with_reducible first | refine gd_dec ?_ ?_ | refine gd_ndec ?_ ?_ | refine qC_dec ?_ ?_ | refine qC_ndec ?_ ?_ | refine piC_dec ?_ ?_ | refine piC_ndec ?_ ?_ | refine zC_dec ?_ ?_ | refine zC_ndec ?_ ?_ | refine zD_dec ?_ ?_ | refine yC_dec ?_ ?_ | refine yC_ndec ?_ ?_ | refine if_dec ?_ ?_ | refine if_ndec ?_ ?_) <;> intro hh) | simp -implicitDefEqProofs (disch := first | omega | assumption) only [go_sem, ↓reduceIte, Nat.reduceEqDiff, Int.reduceEq, Nat.reduceAdd, Nat.reduceSub, Nat.reduceMul, Nat.mul_one, Nat.one_mul, List.length_nil, List.length_cons, List.nil_append, List.cons_append, List.length_append, List.set_cons_zero, List.set_cons_succ, Nat.zero_add, Nat.sub_zero, Option.isNone_none, Option.isNone_some, Int.toNat_natCast, Nat.add_sub_cancel_left, Bool.not_true, Bool.not_false, BitVec.reduceOfInt, Int.reduceToNat, vsL_map] | ((with_reducible first | refine gd_bool ?_ ?_ | refine if_bool ?_ ?_ | refine qC_bool ?_ ?_ | refine piC_bool ?_ ?_ | refine zC_bool ?_ ?_ | refine zD_bool ?_ ?_ | refine yC_bool ?_ ?_) <;> intro hh) | clear hK)
  all_goals first
    | (refine ⟨(vsL ((stdL D B).take 1) ++ vsL (csL l D B 4) ++ List.drop (vsL (csL l D B 4)).length [], T1, ((stdL D B).take 1).length), ?_, VS.mvx 2 3 (by decide) (by simp) (by simp) (by simp) (by simp) ?_ (by simp [eqX, slB]) ?_ ?_⟩
       · exact pl_app (pl_app (vsL_pl _) (vsL_pl _)) (by simp)
       · simp
       · exact ⟨⟨by simp [rnO, psL_map, mvS], psL_wf (by simp) (Pl.nilS.wf _)⟩, plO _ (boardL_pl B), plO _ (pl_app (pl_app (vsL_pl _) (vsL_pl _)) (by simp)), trivial⟩
       · simp [hasN, mvF, Fr.get, slH, mvS, wf_int, wf_bool, wf_sl, wf_pt, wf_nils, wf_str]; done)
    | (refine ⟨(vsL ((stdL D B).take 1) ++ vsL (csL l D B 4) ++ zrep (c' - (((stdL D B).take 1).length + (csL l D B 4).length)) (mvL zMv), 60, c'), ?_, VS.mvx 2 5 (by decide) (by simp) (by simp) (by simp) (by simp) ?_ (by simp [eqX, slB]) ?_ ?_⟩
       · exact pl_app (pl_app (vsL_pl _) (vsL_pl _)) (zrep_pl (mvL_pl _) _)
       · simp
       · exact ⟨⟨by simp [rnO, psL_map, mvS], psL_wf (by simp) (Pl.nilS.wf _)⟩, plO _ (boardL_pl B), plO _ (pl_app (pl_app (vsL_pl _) (vsL_pl _)) (zrep_pl (mvL_pl _) _)), trivial⟩
       · simp [hasN, mvF, Fr.get, slH, mvS, wf_int, wf_bool, wf_sl, wf_pt, wf_nils, wf_str]; done)
def stI (l : List UInt8) (D : Pd) (B : Brd) : Int := if hasN l D B = 0 then (if D.chk = true then 1 else 4) else 0
theorem stI_0 {l : List UInt8} {D : Pd} {B : Brd} (h : ¬ hasN l D B = 0) : stI l D B = 0 := if_neg h
theorem stI_1 {l : List UInt8} {D : Pd} {B : Brd} (h : hasN l D B = 0) (hc : D.chk = true) : stI l D B = 1 := (if_pos h).trans (if_pos hc)
theorem stI_4 {l : List UInt8} {D : Pd} {B : Brd} (h : hasN l D B = 0) (hc : D.chk = false) : stI l D B = 4 := (if_pos h).trans (if_neg (by simp [hc]))
attribute [local irreducible] hasN stI in
set_option maxHeartbeats 8000000 in
theorem status67_ok (l : List UInt8) (D : Pd) (B : Brd) (hcl : l.length ≤ 1000) (hcr : D.cr = byt l) (he : -1 ≤ D.ep ∧ D.ep ≤ 63) (ht : D.turn = 1 ∨ D.turn = 2) (hw : -1 ≤ B.wks ∧ B.wks ≤ 63) (hb : -1 ≤ B.bks ∧ B.bks ≤ 63) :
    FnM (Tz z) 67 [.agg #[], .pointer (some ⟨100, 0, none⟩)] [.cells (psL 101 nilS D) 82, .cells (boardL B) 110] (fun _ : Unit => True) (fun _ => .int .u8 (stI l D B)) (fun _ => [.cells (psL 101 nilS D) 82, .cells (boardL B) 110]) := by
  refine ⟨?_, pb_wl D B, fun _ _ o ho => by simp at ho, (CallM.cut (by simp) (pb_wl D B) (Pl.int.wf _) (start [0, 1, 4, 5, 10, 30, 38] Tryz.func67 rfl (by decide) rfl (by kernel_rfl) (by simp [Tryz.f67]) ?_)).mono fun _ _ ⟨a, b⟩ => ⟨(), trivial, a, b⟩⟩
  · intro u hu
    simp only [List.mem_cons, List.not_mem_nil, or_false] at hu
    rcases hu with rfl | rfl
    · exact fun _ _ _ => rfl
    · exact WF_ptrN (by simp)
  simp only [Tryz.f67]
  by_cases hn : hasN l D B = 0 <;> cases hc : D.chk
  all_goals repeat' (first | ((with_reducible refine call_fr (calc1_ok l D B hcl hcr he ht hw hb) [0, 1] ?_ ?_ ?_ ?_); (· kernel_rfl); (· exact ⟨by kernel_rfl, by kernel_rfl, trivial⟩); (· kernel_rfl); rintro ⟨l1, T1, c1⟩ hx; (have hpm := fun σ : Nat → Nat => pl_map hx σ); simp -implicitDefEqProofs only [fixL_eq, setAll_cons, setAll_nil, setAll_nil2, List.map_cons, List.map_nil, rn_cells, rn_ro, rn_any, rn_obj, boardL_map, mvL_map, psL_map, map_ints, List.set_cons_zero, List.set_cons_succ, List.length_cons, List.length_nil, List.drop_succ_cons, List.drop_zero, List.drop_nil, List.append_nil, List.nil_append, List.cons_append, rl_tuple, rl_int, rl_bool, rl_string, rl_ptr, rl_ptr0, rl_slice, rl_slice0, rl_agg, List.map_toArray, Array.map_empty, List.length_append, Nat.zero_add, Nat.reduceAdd, sig, Nat.reduceLT, Nat.reduceSub, ↓reduceIte, List.getElem?_cons_zero, List.getElem?_cons_succ, List.getElem?_nil, Nat.reduceAdd, Nat.add_zero, Nat.sub_self]; simp only [hpm]; clear hpm) | with_reducible refine seq_k fun K hK => ?_ | (with_reducible refine hK _ _ ?_; clear hK) | ((with_reducible first | refine gd_dec ?_ ?_ | refine gd_ndec ?_ ?_ | refine qC_dec ?_ ?_ | refine qC_ndec ?_ ?_ | refine piC_dec ?_ ?_ | refine piC_ndec ?_ ?_ | refine zC_dec ?_ ?_ | refine zC_ndec ?_ ?_ | refine zD_dec ?_ ?_ | refine yC_dec ?_ ?_ | refine yC_ndec ?_ ?_ | refine if_dec ?_ ?_ | refine if_ndec ?_ ?_) <;> intro hh) | simp -implicitDefEqProofs (disch := first | omega | assumption) only [go_sem, ↓reduceIte, Nat.reduceEqDiff, Int.reduceEq, Nat.reduceAdd, Nat.reduceSub, Nat.reduceMul, Nat.mul_one, Nat.one_mul, List.length_nil, List.length_cons, List.nil_append, List.cons_append, List.length_append, List.set_cons_zero, List.set_cons_succ, Nat.zero_add, Nat.sub_zero, Option.isNone_none, Option.isNone_some, Int.toNat_natCast, Nat.add_sub_cancel_left, Bool.not_true, Bool.not_false, BitVec.reduceOfInt, Int.reduceToNat, onGd_T, onGd_F, pickV_T, pickV_F, hc, hn] | ((with_reducible first | refine gd_bool ?_ ?_ | refine if_bool ?_ ?_ | refine qC_bool ?_ ?_ | refine piC_bool ?_ ?_ | refine zC_bool ?_ ?_ | refine zD_bool ?_ ?_ | refine yC_bool ?_ ?_) <;> intro hh) | clear hK)
  all_goals first
    | exact ⟨by rw [stI_0 hn], _, rfl⟩
    | exact ⟨by rw [stI_1 hn hc], _, rfl⟩
    | exact ⟨by rw [stI_4 hn hc], _, rfl⟩
    | (exfalso; omega)
set_option maxHeartbeats 4000000 in
theorem status_ok (l : List UInt8) (D : Pd) (B : Brd) (hcl : l.length ≤ 1000) (hcr : D.cr = byt l) (he : -1 ≤ D.ep ∧ D.ep ≤ 63) (ht : D.turn = 1 ∨ D.turn = 2) (hw : -1 ≤ B.wks ∧ B.wks ≤ 63) (hb : -1 ≤ B.bks ∧ B.bks ≤ 63) : FnR2 (Tz z) 39 D B [] (.int .u8 (stI l D B)) := by
  refine ⟨by simp, Pl.int, CallM.cut (by simp) (pb_wl D B) (Pl.int.wf _) (start [0, 2] Tryz.func39 rfl (by decide) rfl (by kernel_rfl) (by simp [Tryz.f39]) ?_)⟩
  simp only [Tryz.f39]
  repeat' (first | ((with_reducible refine call_fr (status67_ok l D B hcl hcr he ht hw hb) [0, 1] ?_ ?_ ?_ ?_); (· kernel_rfl); (· exact ⟨by kernel_rfl, by kernel_rfl, trivial⟩); (· kernel_rfl); intro xx hx; simp -implicitDefEqProofs only [fixL_eq, setAll_cons, setAll_nil, setAll_nil2, List.map_cons, List.map_nil, rn_cells, rn_ro, rn_any, rn_obj, boardL_map, mvL_map, psL_map, map_ints, List.set_cons_zero, List.set_cons_succ, List.length_cons, List.length_nil, List.drop_succ_cons, List.drop_zero, List.drop_nil, List.append_nil, List.nil_append, List.cons_append, rl_tuple, rl_int, rl_bool, rl_string, rl_ptr, rl_ptr0, rl_slice, rl_slice0, rl_agg, List.map_toArray, Array.map_empty, List.length_append, Nat.zero_add, Nat.reduceAdd, sig, Nat.reduceLT, Nat.reduceSub, ↓reduceIte, List.getElem?_cons_zero, List.getElem?_cons_succ, List.getElem?_nil, Nat.reduceAdd, Nat.add_zero, Nat.sub_self]) | with_reducible refine seq_k fun K hK => ?_ | (with_reducible refine hK _ _ ?_; clear hK) | ((with_reducible first | refine gd_dec ?_ ?_ | refine gd_ndec ?_ ?_ | refine qC_dec ?_ ?_ | refine qC_ndec ?_ ?_ | refine piC_dec ?_ ?_ | refine piC_ndec ?_ ?_ | refine zC_dec ?_ ?_ | refine zC_ndec ?_ ?_ | refine zD_dec ?_ ?_ | refine yC_dec ?_ ?_ | refine yC_ndec ?_ ?_ | refine if_dec ?_ ?_ | refine if_ndec ?_ ?_) <;> intro hh) | simp -implicitDefEqProofs (disch := first | omega | assumption) only [go_sem, ↓reduceIte, Nat.reduceEqDiff, Int.reduceEq, Nat.reduceAdd, Nat.reduceSub, Nat.reduceMul, Nat.mul_one, Nat.one_mul, List.length_nil, List.length_cons, List.nil_append, List.cons_append, List.length_append, List.set_cons_zero, List.set_cons_succ, Nat.zero_add, Nat.sub_zero, Option.isNone_none, Option.isNone_some, Int.toNat_natCast, Nat.add_sub_cancel_left, Bool.not_true, Bool.not_false, BitVec.reduceOfInt, Int.reduceToNat] | ((with_reducible first | refine gd_bool ?_ ?_ | refine if_bool ?_ ?_ | refine qC_bool ?_ ?_ | refine piC_bool ?_ ?_ | refine zC_bool ?_ ?_ | refine zD_bool ?_ ?_ | refine yC_bool ?_ ?_) <;> intro hh) | clear hK)
  all_goals first
    | exact ⟨trivial, _, rfl⟩
    | exact ⟨rfl, _, rfl⟩
end Go.Tb
end
section
namespace Go.Tb
open Go Go.Proofs
variable {z : Nat × Nat}
set_option maxRecDepth 20000
def flagP (M : Mv) (st : Int) : Nat → Bool := b8 true (tagOn M 4 || tagOn M 8) (tagOn M 8) (tagOn M 1 || tagOn M 2) (!decide (M.promo = 0)) (tagOn M 16) (decide (st = 1)) (decide (st = 4))
def fp8 (M : Mv) (st : Int) : List Value := [.bool true, .bool (tagOn M 4 || tagOn M 8), .bool (tagOn M 8), .bool (tagOn M 1 || tagOn M 2), .bool (!decide (M.promo = 0)), .bool (tagOn M 16), .bool (decide (st = 1)), .bool (decide (st = 4))]
theorem fp8_g {M : Mv} {st : Int} {k : Nat} (hk : k < 8) : (fp8 M st)[k]? = some (.bool (flagP M st k)) := b8_g hk
def stS (s : PSt) : Int := stI s.1 s.2.1 s.2.2
def p1 (s : PSt) (M : Mv) (i : Nat) : Int := if flagP M (stS (nxt s M)) i = true then 1 else 0
def ptN : Nat → PSt → Nat → Int
  | 0, _, _ => 0
  | 1, s, i => sumK (fun k => p1 s (vAt (allS s) k) i) (allS s).length
  | d + 2, s, i => sumK (fun k => ptN (d + 1) (nxt s (vAt (allS s) k)) i) (allS s).length
theorem ptN_1 (s : PSt) (i : Nat) : ptN 1 s i = sumK (fun k => p1 s (vAt (allS s) k) i) (allS s).length := rfl
theorem ptN_S (d : Nat) (s : PSt) (i : Nat) : ptN (d + 2) s i = sumK (fun k => ptN (d + 1) (nxt s (vAt (allS s) k)) i) (allS s).length := rfl
def PtOk : Nat → PSt → Prop
  | 0, s => StOk s
  | d + 1, s => StOk s ∧ ∀ m ∈ allS s, MvOk s.2.2 m ∧ PtOk d (nxt s m)
theorem p1_bd (s : PSt) (M : Mv) (i : Nat) : 0 ≤ p1 s M i ∧ p1 s M i ≤ 220 ^ 0 := by unfold p1; split <;> simp
theorem sumP_bd {d n : Nat} {f : Nat → Int} (hn : n ≤ 220) (h : ∀ i, i < n → 0 ≤ f i ∧ f i ≤ 220 ^ d) {k : Nat} (hk : k ≤ n) : 0 ≤ sumK f k ∧ sumK f k + (220 - k) * 220 ^ d ≤ 220 ^ (d + 1) := by
  obtain ⟨a, b⟩ := sumK_bd2 (f := f) (M := 220 ^ d) k fun i hi => h i (by omega)
  refine ⟨a, ?_⟩
  rw [Int.pow_succ, Int.mul_comm ((220 : Int) ^ d) 220, Int.sub_mul]; omega
theorem ptN_bd : ∀ (d : Nat) (s : PSt) (i : Nat), PtOk d s → 0 ≤ ptN d s i ∧ ptN d s i ≤ 220 ^ d
  | 0, s, i, _ => by simp [ptN]
  | 1, s, i, h => by
    rw [ptN_1]
    have hl := allS_len h.1
    obtain ⟨a, b⟩ := sumP_bd (d := 0) hl (f := fun k => p1 s (vAt (allS s) k) i) (fun j _ => p1_bd _ _ _) (Nat.le_refl _)
    simp at b ⊢
    omega
  | d + 2, s, i, h => by
    rw [ptN_S]
    have hl := allS_len h.1
    obtain ⟨a, b⟩ := sumP_bd (d := d + 1) hl (f := fun k => ptN (d + 1) (nxt s (vAt (allS s) k)) i) (fun j hj => ptN_bd (d + 1) _ i (h.2 _ (vAt_mem hj)).2) (Nat.le_refl _)
    have := Int.mul_nonneg (show (0 : Int) ≤ 220 - (allS s).length by omega) (pow220 (d + 1))
    refine ⟨a, ?_⟩
    show _ ≤ (220 : Int) ^ (d + 1 + 1)
    omega
theorem VS.any2c {X : Cx} {v : Value} {a b : AO} {c : List Value} {T : TypeId} {G : List AO} (ha : a.wr = true) (hb : b.wr = true) (hv : Pl v) (hc : ∀ u ∈ c, Pl u) : VS X 3 ([(0, v)], a :: b :: .cells c T :: G) ([(0, v)], [.any, .any, .cells c T]) := by
  refine VS.forget (by simp) (by simp) (fun i o hi h hw => ?_) (fun i o h => ?_) (fun o ho => ?_) (fun t y hy => ?_)
  · rcases i with _ | _ | _ | i
    · simp at h; subst h; rw [ha] at hw; cases hw
    · simp at h; subst h; rw [hb] at hw; cases hw
    · simp at h; subst h; cases hw
    · omega
  · rcases i with _ | _ | _ | i
    · simp at h; exact .inl h.symm
    · simp at h; exact .inl h.symm
    · simp at h; subst h; exact .inr rfl
    · simp at h
  · simp at ho
    rcases ho with rfl | rfl
    · trivial
    · exact fun u hu => (hc u hu).wf _
  · simp only [Fr.get] at hy ⊢
    split at hy
    · simp only [Option.some.injEq] at hy; subst hy; rw [if_pos (by assumption)]; exact ⟨rfl, hv.wf _⟩
    · cases hy
def PtC (z : Nat × Nat) (d : Nat) : Prop := ∀ (s : PSt) (n : Nat → Int), PtOk d s → (∀ i, 0 ≤ n i ∧ n i + 220 ^ d ≤ 1000000000000000) → FnM (Tz z) 21 [.pointer (some ⟨100, 0, none⟩), .int .i64 d, .pointer (some ⟨102, 0, none⟩)] [.cells (psL 101 nilS s.2.1) 82, .cells (boardL s.2.2) 110, .cells (ints .i64 8 n) 28] (fun _ : Unit => True) (fun _ => .tuple #[]) (fun _ => [.any, .any, .cells (ints .i64 8 fun i => n i + ptN d s i) 28])
theorem pt_wv (d : Int) (n : Nat) (h : 2 < n) : ∀ u ∈ [Value.pointer (some ⟨100, 0, none⟩), .int .i64 d, .pointer (some ⟨102, 0, none⟩)], WF (100 + n) u := by
  intro u hu
  simp only [List.mem_cons, List.not_mem_nil, or_false] at hu
  rcases hu with rfl | rfl | rfl
  · exact WF_ptrN (by omega)
  · exact wf_int
  · exact WF_ptrN (by omega)
theorem pbn_wl {D : Pd} {B : Brd} {n : Nat → Int} : ∀ o ∈ [AO.cells (psL 101 nilS D) 82, AO.cells (boardL B) 110, AO.cells (ints .i64 8 n) 28], o.wf (100 + 3) := by
  intro o ho
  simp only [List.mem_cons, List.not_mem_nil, or_false] at ho
  rcases ho with rfl | rfl | rfl
  · exact psL_wf (by decide) (Pl.nilS.wf _)
  · exact fun u hu => (boardL_pl B u hu).wf _
  · exact fun u hu => (ints_pl _ _ _ u hu).wf _
theorem sumF_S {n : Nat → Int} {f : Nat → Nat → Int} {k : Nat} : (fun i => n i + sumK (f i) k + f i k) = fun i => n i + sumK (f i) (k + 1) := by
  funext i; rw [sumK_S]; omega
theorem pred2d (d : Nat) : ((d + 2 : Nat) : Int) - 1 = ((d + 1 : Nat) : Int) := by omega
theorem pl_tup0 : Pl (.tuple #[]) := fun _ => rfl
attribute [local irreducible] stdL csL allL updB crUp updD ptN sumK nxt in
set_option maxHeartbeats 8000000 in
theorem pt_okS (d : Nat) (hd : d + 2 ≤ 5) (ih : PtC z (d + 1)) : PtC z (d + 2) := by
  unfold PtC at ih
  rintro ⟨l, D, B⟩ n ⟨hs, hm⟩ hn
  have hlen : (allL l D B).length ≤ 220 := allS_len hs
  have hpf : ∀ i j, j < (allL l D B).length → 0 ≤ ptN (d + 1) (nxt (l, D, B) (vAt (allL l D B) j)) i ∧ ptN (d + 1) (nxt (l, D, B) (vAt (allL l D B) j)) i ≤ 220 ^ (d + 1) := fun i j hj => ptN_bd (d + 1) _ i (hm _ (vAt_mem (l := (allL l D B)) hj)).2
  have hsum : ∀ k, k < (allL l D B).length → ∀ i, 0 ≤ (fun i => n i + sumK (fun j => ptN (d + 1) (nxt (l, D, B) (vAt (allL l D B) j)) i) k) i ∧ (fun i => n i + sumK (fun j => ptN (d + 1) (nxt (l, D, B) (vAt (allL l D B) j)) i) k) i + 220 ^ (d + 1) ≤ 1000000000000000 := fun k hk i => by
    obtain ⟨a, b⟩ := sumP_bd (d := d + 1) hlen (hpf i) (Nat.le_of_lt hk)
    obtain ⟨e, f⟩ := hn i
    have f : n i + 220 ^ (d + 1 + 1) ≤ 1000000000000000 := f
    have h1 : (1 : Int) * 220 ^ (d + 1) ≤ (220 - k) * 220 ^ (d + 1) := Int.mul_le_mul_of_nonneg_right (by omega) (pow220 (d + 1))
    exact ⟨by show 0 ≤ n i + _; omega, by show n i + _ + _ ≤ _; omega⟩
  refine ⟨pt_wv _ _ (by simp), pbn_wl, fun _ _ o ho => by simp at ho, CallM.shiftX (start [0, 1, 2, 7, 8, 9, 10, 11, 13, 14, 15, 16, 22, 46, 47, 48, 49, 53] Tryz.func21 rfl (by decide) rfl (by kernel_rfl) (by simp [Tryz.f21]) ?_)⟩
  simp only [Tryz.f21]
  repeat' (first | ((with_reducible refine call_fr (valid_okM l D B hs.len hs.cr hs.std hs.ep hs.turn hs.wk hs.bk) [0, 1] ?_ ?_ ?_ ?_); (· kernel_rfl); (· exact ⟨by kernel_rfl, by kernel_rfl, trivial⟩); (· kernel_rfl); rintro ⟨⟨tc, cc⟩, h⟩ ⟨hx1, hx2⟩; (have hpc := pl_app (vsL_pl (allL l D B)) hx1.2.2.2); (have hpm := fun σ : Nat → Nat => pl_map hpc σ); (rcases h with _ | ⟨t2, c2⟩); (have hz := hx2.1); simp only [vxM, slM, slH_none]; simp -implicitDefEqProofs only [fixL_eq, setAll_cons, setAll_nil, setAll_nil2, List.map_cons, List.map_nil, rn_cells, rn_ro, rn_any, rn_obj, boardL_map, mvL_map, psL_map, map_ints, List.set_cons_zero, List.set_cons_succ, List.length_cons, List.length_nil, List.drop_succ_cons, List.drop_zero, List.drop_nil, List.append_nil, List.nil_append, List.cons_append, rl_tuple, rl_int, rl_bool, rl_string, rl_ptr, rl_ptr0, rl_slice, rl_slice0, rl_agg, List.map_toArray, Array.map_empty, List.length_append, Nat.zero_add, Nat.reduceAdd, sig, Nat.reduceLT, Nat.reduceSub, ↓reduceIte, List.getElem?_cons_zero, List.getElem?_cons_succ, List.getElem?_nil, Nat.reduceAdd, Nat.add_zero, Nat.sub_self]; simp only [hpm]; rotate_left; (have hp2 := pl_app (vsL_pl (allL l D B)) hx2.2.2.2); (have hpn := fun σ : Nat → Nat => pl_map hp2 σ); simp only [vxM, slM, slH_some]; simp -implicitDefEqProofs only [fixL_eq, setAll_cons, setAll_nil, setAll_nil2, List.map_cons, List.map_nil, rn_cells, rn_ro, rn_any, rn_obj, boardL_map, mvL_map, psL_map, map_ints, List.set_cons_zero, List.set_cons_succ, List.length_cons, List.length_nil, List.drop_succ_cons, List.drop_zero, List.drop_nil, List.append_nil, List.nil_append, List.cons_append, rl_tuple, rl_int, rl_bool, rl_string, rl_ptr, rl_ptr0, rl_slice, rl_slice0, rl_agg, List.map_toArray, Array.map_empty, List.length_append, Nat.zero_add, Nat.reduceAdd, sig, Nat.reduceLT, Nat.reduceSub, ↓reduceIte, List.getElem?_cons_zero, List.getElem?_cons_succ, List.getElem?_nil, Nat.reduceAdd, Nat.add_zero, Nat.sub_self]; simp only [hpm, hpn]; rotate_left) | ((with_reducible refine loop (c := Code.seq (Code.region 1 _ _) _) (V := [0, 1, 2, 7, 8, 9, 10, 11, 13, 14, 15, 16, 22, 46, 47, 48, 49, 53]) (fun k : Nat => ([(0, .pointer (some ⟨100, 0, none⟩)), (1, .int .i64 ((d + 2 : Nat) : Int)), (2, .pointer (some ⟨102, 0, none⟩)), (13, .slice (some ⟨104, 0, none⟩) (allL l D B).length c2), (14, .int .i64 (allL l D B).length), (15, .int .i64 k)], [.cells (psL 101 (.slice (some ⟨103, 0, none⟩) (allL l D B).length cc) D) 82, .cells (boardL B) 110, .cells (ints .i64 8 (fun i => n i + sumK (fun j => ptN (d + 1) (nxt (l, D, B) (vAt (allL l D B) j)) i) k)) 28, .cells (vsL (allL l D B) ++ tc) 60, .cells (vsL (allL l D B) ++ t2) 60])) (fun k => k ≤ (allL l D B).length) (fun k => (allL l D B).length - k) 0 (by kernel_rfl) ?_ ?_ (fun k hk => ?_)); rotate_left 2; have hsk := hsum k; have hmk := fun hlt : k < (allL l D B).length => hm _ (vAt_mem (l := (allL l D B)) hlt); rotate_right 2) | with_reducible refine loop (c := Code.seq (Code.region 1 _ _) _) (V := [0, 1, 2, 7, 8, 9, 10, 11, 13, 14, 15, 16, 22, 46, 47, 48, 49, 53]) (fun k : Nat => ([(14, .int .i64 0), (15, .int .i64 0)], [.cells (psL 101 (.slice (some ⟨103, 0, none⟩) (allL l D B).length cc) D) 82, .cells (boardL B) 110, .cells (ints .i64 8 n) 28, .cells (vsL (allL l D B) ++ tc) 60])) (fun _ => True) (fun k => 0) 0 (by kernel_rfl) trivial ?_ (fun k hk => ?_) | ((with_reducible refine call_fr (Update_ok D (vAt (allL l D B) k) B (allL l D B).length cc (vsL (allL l D B) ++ tc) hpc l hs.len hs.cr (hmk (by omega)).1.s1 (hmk (by omega)).1.s2 (hmk (by omega)).1.promo hs.half hs.mc) [0, 5, 1, 3] ?_ ?_ ?_ ?_); (· kernel_rfl); (· exact ⟨by kernel_rfl, by kernel_rfl, by kernel_rfl, by rw [plK hpc]; rfl, trivial⟩); (· kernel_rfl); intro xx hx; simp only [pmbL]; simp -implicitDefEqProofs only [fixL_eq, setAll_cons, setAll_nil, setAll_nil2, List.map_cons, List.map_nil, rn_cells, rn_ro, rn_any, rn_obj, boardL_map, mvL_map, psL_map, map_ints, List.set_cons_zero, List.set_cons_succ, List.length_cons, List.length_nil, List.drop_succ_cons, List.drop_zero, List.drop_nil, List.append_nil, List.nil_append, List.cons_append, rl_tuple, rl_int, rl_bool, rl_string, rl_ptr, rl_ptr0, rl_slice, rl_slice0, rl_agg, List.map_toArray, Array.map_empty, List.length_append, Nat.zero_add, Nat.reduceAdd, sig, Nat.reduceLT, Nat.reduceSub, ↓reduceIte, List.getElem?_cons_zero, List.getElem?_cons_succ, List.getElem?_nil, Nat.reduceAdd, Nat.add_zero, Nat.sub_self]; simp only [hpm, hpn]) | ((with_reducible refine call_fr (ih (nxt (l, D, B) (vAt (allL l D B) k)) (fun i => n i + sumK (fun j => ptN (d + 1) (nxt (l, D, B) (vAt (allL l D B) j)) i) k) (hmk (by omega)).2 (hsk (by omega))) [7, 6, 2] ?_ ?_ ?_ ?_); (· kernel_rfl); (· exact ⟨by kernel_rfl, by kernel_rfl, by kernel_rfl, trivial⟩); (· kernel_rfl); intro xx hx; simp -implicitDefEqProofs only [fixL_eq, setAll_cons, setAll_nil, setAll_nil2, List.map_cons, List.map_nil, rn_cells, rn_ro, rn_any, rn_obj, boardL_map, mvL_map, psL_map, map_ints, List.set_cons_zero, List.set_cons_succ, List.length_cons, List.length_nil, List.drop_succ_cons, List.drop_zero, List.drop_nil, List.append_nil, List.nil_append, List.cons_append, rl_tuple, rl_int, rl_bool, rl_string, rl_ptr, rl_ptr0, rl_slice, rl_slice0, rl_agg, List.map_toArray, Array.map_empty, List.length_append, Nat.zero_add, Nat.reduceAdd, sig, Nat.reduceLT, Nat.reduceSub, ↓reduceIte, List.getElem?_cons_zero, List.getElem?_cons_succ, List.getElem?_nil, Nat.reduceAdd, Nat.add_zero, Nat.sub_self]) | with_reducible refine seq_k fun K hK => ?_ | (with_reducible refine hK _ _ ?_; clear hK) | ((with_reducible first | refine gd_dec ?_ ?_ | refine gd_ndec ?_ ?_ | refine qC_dec ?_ ?_ | refine qC_ndec ?_ ?_ | refine piC_dec ?_ ?_ | refine piC_ndec ?_ ?_ | refine zC_dec ?_ ?_ | refine zC_ndec ?_ ?_ | refine zD_dec ?_ ?_ | refine yC_dec ?_ ?_ | refine yC_ndec ?_ ?_ | refine if_dec ?_ ?_ | refine if_ndec ?_ ?_) <;> intro hh) | simp -implicitDefEqProofs (disch := first | omega | assumption) only [go_sem, ↓reduceIte, Nat.reduceEqDiff, Int.reduceEq, Nat.reduceAdd, Nat.reduceSub, Nat.reduceMul, Nat.mul_one, Nat.one_mul, List.length_nil, List.length_cons, List.nil_append, List.cons_append, List.length_append, List.set_cons_zero, List.set_cons_succ, Nat.zero_add, Nat.sub_zero, Option.isNone_none, Option.isNone_some, Int.toNat_natCast, Nat.add_sub_cancel_left, Bool.not_true, Bool.not_false, BitVec.reduceOfInt, Int.reduceToNat, vsL_map, pred2d, vsL_subT, mv_lit, wr_mv0, slH_some] | ((with_reducible first | refine gd_bool ?_ ?_ | refine if_bool ?_ ?_ | refine qC_bool ?_ ?_ | refine piC_bool ?_ ?_ | refine zC_bool ?_ ?_ | refine zD_bool ?_ ?_ | refine yC_bool ?_ ?_) <;> intro hh) | clear hK)
  all_goals first
    | exact Nat.zero_le _
    | (exact VS.sub2 (by simp [Fr.sub, Fr.get]) rfl)
    | (simp only [sumK_0, Int.add_zero]
       exact VS.sub2 (by simp [Fr.sub, Fr.get]) rfl)
    | (refine ⟨(), trivial, ?_⟩
       have e : ∀ i, ptN (d + 2) (l, D, B) i = 0 := fun i => by
         rw [ptN_S, show (allS (l, D, B)).length = 0 from hz]; exact sumK_0 _
       simp only [e, Int.add_zero]; exact VS.any2c rfl rfl pl_tup0 (ints_pl _ _ _))
    | (have hkk : k = (allL l D B).length := by omega
       refine ⟨(), trivial, ?_⟩
       have e : ∀ i, ptN (d + 2) (l, D, B) i = sumK (fun j => ptN (d + 1) (nxt (l, D, B) (vAt (allL l D B) j)) i) k := fun i => by rw [hkk]; exact ptN_S d (l, D, B) i
       simp only [e]; exact VS.any2c rfl rfl pl_tup0 (ints_pl _ _ _))
    | (rw [sumF_S (f := fun i j => ptN (d + 1) (nxt (l, D, B) (vAt (allL l D B) j)) i)]
       refine ⟨k + 1, by omega, by omega, VS.cutT rfl (by simp) ⟨psL_wf (by simp) (wf_sl (by simp)), plW (boardL_pl B), plW (ints_pl _ _ _), plW hpc, plW hp2, trivial⟩ ?_⟩
       simp [subW, Fr.get, wf_int, wf_sl, wf_pt])
end Go.Tb
end
section
namespace Go.Tb
open Go Go.Proofs
variable {z : Nat × Nat}
set_option maxRecDepth 20000
def nFp (f : Nat → Bool) (n : Nat → Int) (k : Nat) : Nat → Int := fun i => n i + if i < k ∧ f i = true then 1 else 0
theorem nFp_0 (f : Nat → Bool) (n : Nat → Int) : nFp f n 0 = n := by
  funext i; simp [nFp]
theorem nFp_yes {f : Nat → Bool} {n : Nat → Int} {k : Nat} (h : f k = true) : upd (nFp f n k) k (nFp f n k k + 1) = nFp f n (k + 1) := by
  funext i
  simp only [upd, nFp]
  by_cases hi : i = k
  · subst hi; simp [h]
  · simp [hi, show i < k + 1 ↔ i < k by omega]
theorem nFp_no {f : Nat → Bool} {n : Nat → Int} {k : Nat} (h : f k = false) : nFp f n k = nFp f n (k + 1) := by
  funext i
  simp only [nFp]
  by_cases hi : i = k
  · subst hi; simp [h]
  · simp [show i < k + 1 ↔ i < k by omega]
theorem nFp_end (f : Nat → Bool) (n : Nat → Int) : ints .i64 8 (nFp f n 8) = ints .i64 8 (fun i => n i + if f i = true then 1 else 0) := by
  refine ints_congr fun i hi => ?_
  simp only [nFp, hi, true_and]
theorem nFp_bd {f : Nat → Bool} {n : Nat → Int} {k : Nat} {W : Int} (h : ∀ i, 0 ≤ n i ∧ n i ≤ W) (i : Nat) : 0 ≤ nFp f n k i ∧ nFp f n k i ≤ W + 1 := by
  have h1 := h i
  simp only [nFp]
  split <;> omega
theorem nxt_ok {l : List UInt8} {D : Pd} {B : Brd} {M : Mv} (h : StOk (nxt (l, D, B) M)) : (crUp l B M).length ≤ 1000 ∧ (updD l D M B).cr = byt (crUp l B M) ∧ (-1 ≤ (updD l D M B).ep ∧ (updD l D M B).ep ≤ 63) ∧ ((updD l D M B).turn = 1 ∨ (updD l D M B).turn = 2) ∧ (-1 ≤ (updB B M).wks ∧ (updB B M).wks ≤ 63) ∧ (-1 ≤ (updB B M).bks ∧ (updB B M).bks ≤ 63) := ⟨h.len, h.cr, h.ep, h.turn, h.wk, h.bk⟩
def stX (l : List UInt8) (D : Pd) (B : Brd) (M : Mv) : Int := stI (crUp l B M) (updD l D M B) (updB B M)
theorem stX_e (l : List UInt8) (D : Pd) (B : Brd) (M : Mv) : stX l D B M = stS (nxt (l, D, B) M) := rfl
theorem statusX_ok {l : List UInt8} {D : Pd} {B : Brd} {M : Mv} (h : StOk (nxt (l, D, B) M)) : FnR2 (Tz z) 39 (updD l D M B) (updB B M) [] (.int .u8 (stX l D B M)) := by
  obtain ⟨h1, h2, h3, h4, h5, h6⟩ := nxt_ok h
  exact status_ok _ _ _ h1 h2 h3 h4 h5 h6
attribute [local irreducible] stdL csL allL updB crUp updD ptN sumK nxt stX flagP fp8 nFp in
set_option maxHeartbeats 8000000 in
theorem pt_ok1 : PtC z 1 := by
  rintro ⟨l, D, B⟩ n ⟨hs, hm⟩ hn
  have hlen : (allL l D B).length ≤ 220 := allS_len hs
  have hpf : ∀ i j, j < (allL l D B).length → 0 ≤ p1 (l, D, B) (vAt (allL l D B) j) i ∧ p1 (l, D, B) (vAt (allL l D B) j) i ≤ 220 ^ 0 := fun i j hj => p1_bd _ _ _
  have hsum : ∀ k, k < (allL l D B).length → ∀ i, 0 ≤ (fun i => n i + sumK (fun j => p1 (l, D, B) (vAt (allL l D B) j) i) k) i ∧ (fun i => n i + sumK (fun j => p1 (l, D, B) (vAt (allL l D B) j) i) k) i ≤ 1000000000000000 := fun k hk i => by
    obtain ⟨a, b⟩ := sumP_bd (d := 0) hlen (hpf i) (Nat.le_of_lt hk)
    obtain ⟨e, f⟩ := hn i
    simp only [Int.pow_zero, Int.mul_one, Int.zero_add, Int.pow_one] at b f
    exact ⟨by show 0 ≤ n i + _; omega, by show n i + _ ≤ _; omega⟩
  refine ⟨pt_wv _ _ (by simp), pbn_wl, fun _ _ o ho => by simp at ho, CallM.shiftX (start [0, 1, 2, 7, 8, 9, 10, 11, 13, 14, 15, 16, 22, 46, 47, 48, 49, 53] Tryz.func21 rfl (by decide) rfl (by kernel_rfl) (by simp [Tryz.f21]) ?_)⟩
  simp only [Tryz.f21]
  repeat' (first | ((with_reducible refine call_fr (valid_okM l D B hs.len hs.cr hs.std hs.ep hs.turn hs.wk hs.bk) [0, 1] ?_ ?_ ?_ ?_); (· kernel_rfl); (· exact ⟨by kernel_rfl, by kernel_rfl, trivial⟩); (· kernel_rfl); rintro ⟨⟨tc, cc⟩, h⟩ ⟨hx1, hx2⟩; (have hpc := pl_app (vsL_pl (allL l D B)) hx1.2.2.2); (have hpm := fun σ : Nat → Nat => pl_map hpc σ); (rcases h with _ | ⟨t2, c2⟩); (have hz := hx2.1); simp only [vxM, slM, slH_none]; simp -implicitDefEqProofs only [fixL_eq, setAll_cons, setAll_nil, setAll_nil2, List.map_cons, List.map_nil, rn_cells, rn_ro, rn_any, rn_obj, boardL_map, mvL_map, psL_map, map_ints, List.set_cons_zero, List.set_cons_succ, List.length_cons, List.length_nil, List.drop_succ_cons, List.drop_zero, List.drop_nil, List.append_nil, List.nil_append, List.cons_append, rl_tuple, rl_int, rl_bool, rl_string, rl_ptr, rl_ptr0, rl_slice, rl_slice0, rl_agg, List.map_toArray, Array.map_empty, List.length_append, Nat.zero_add, Nat.reduceAdd, sig, Nat.reduceLT, Nat.reduceSub, ↓reduceIte, List.getElem?_cons_zero, List.getElem?_cons_succ, List.getElem?_nil, Nat.reduceAdd, Nat.add_zero, Nat.sub_self]; simp only [hpm]; rotate_left; (have hp2 := pl_app (vsL_pl (allL l D B)) hx2.2.2.2); (have hpn := fun σ : Nat → Nat => pl_map hp2 σ); simp only [vxM, slM, slH_some]; simp -implicitDefEqProofs only [fixL_eq, setAll_cons, setAll_nil, setAll_nil2, List.map_cons, List.map_nil, rn_cells, rn_ro, rn_any, rn_obj, boardL_map, mvL_map, psL_map, map_ints, List.set_cons_zero, List.set_cons_succ, List.length_cons, List.length_nil, List.drop_succ_cons, List.drop_zero, List.drop_nil, List.append_nil, List.nil_append, List.cons_append, rl_tuple, rl_int, rl_bool, rl_string, rl_ptr, rl_ptr0, rl_slice, rl_slice0, rl_agg, List.map_toArray, Array.map_empty, List.length_append, Nat.zero_add, Nat.reduceAdd, sig, Nat.reduceLT, Nat.reduceSub, ↓reduceIte, List.getElem?_cons_zero, List.getElem?_cons_succ, List.getElem?_nil, Nat.reduceAdd, Nat.add_zero, Nat.sub_self]; simp only [hpm, hpn]; rotate_left) | ((with_reducible refine loop (c := Code.seq (Code.region 1 _ _) _) (V := [0, 1, 2, 7, 8, 9, 10, 11, 13, 14, 15, 16, 22, 46, 47, 48, 49, 53]) (fun k : Nat => ([(0, .pointer (some ⟨100, 0, none⟩)), (1, .int .i64 1), (2, .pointer (some ⟨102, 0, none⟩)), (13, .slice (some ⟨104, 0, none⟩) (allL l D B).length c2), (14, .int .i64 (allL l D B).length), (15, .int .i64 k)], [.cells (psL 101 (.slice (some ⟨103, 0, none⟩) (allL l D B).length cc) D) 82, .cells (boardL B) 110, .cells (ints .i64 8 (fun i => n i + sumK (fun j => p1 (l, D, B) (vAt (allL l D B) j) i) k)) 28, .cells (vsL (allL l D B) ++ tc) 60, .cells (vsL (allL l D B) ++ t2) 60])) (fun k => k ≤ (allL l D B).length) (fun k => (allL l D B).length - k) 0 (by kernel_rfl) ?_ ?_ (fun k hk => ?_)); rotate_left 2; have hsk := hsum k; have hmk := fun hlt : k < (allL l D B).length => hm _ (vAt_mem (l := (allL l D B)) hlt); have hst : ∀ hlt : k < (allL l D B).length, StOk (nxt (l, D, B) (vAt (allL l D B) k)) := fun hlt => (hm _ (vAt_mem (l := (allL l D B)) hlt)).2; rotate_right 2) | with_reducible refine loop (c := Code.seq (Code.region 1 _ _) _) (V := [0, 1, 2, 7, 8, 9, 10, 11, 13, 14, 15, 16, 22, 46, 47, 48, 49, 53]) (fun k : Nat => ([(14, .int .i64 0), (15, .int .i64 0)], [.cells (psL 101 (.slice (some ⟨103, 0, none⟩) (allL l D B).length cc) D) 82, .cells (boardL B) 110, .cells (ints .i64 8 n) 28, .cells (vsL (allL l D B) ++ tc) 60])) (fun _ => True) (fun k => 0) 0 (by kernel_rfl) trivial ?_ (fun k hk => ?_) | ((with_reducible refine loop (c := Code.seq (Code.region 8 _ _) _) (V := [0, 1, 2, 7, 8, 9, 10, 11, 13, 14, 15, 16, 22, 46, 47, 48, 49, 53]) (fun j : Nat => ([(0, .pointer (some ⟨100, 0, none⟩)), (1, .int .i64 1), (2, .pointer (some ⟨102, 0, none⟩)), (13, .slice (some ⟨104, 0, none⟩) (allL l D B).length c2), (14, .int .i64 (allL l D B).length), (15, .int .i64 k), (46, .slice (some ⟨108, 0, none⟩) 8 8), (47, .int .i64 8), (48, .int .i64 j)], [.cells (psL 101 (.slice (some ⟨103, 0, none⟩) (allL l D B).length cc) D) 82, .cells (boardL B) 110, .cells (ints .i64 8 (nFp (flagP (vAt (allL l D B) k) (stX l D B (vAt (allL l D B) k))) (fun i => n i + sumK (fun j => p1 (l, D, B) (vAt (allL l D B) j) i) k) j)) 28, .cells (vsL (allL l D B) ++ tc) 60, .cells (vsL (allL l D B) ++ t2) 60, .cells (mvL (vAt (allL l D B) k)) 60, .cells (boardL (updB B (vAt (allL l D B) k))) 110, .cells (psL 106 nilS (updD l D (vAt (allL l D B) k) B)) 82, .cells (fp8 (vAt (allL l D B) k) (stX l D B (vAt (allL l D B) k))) 4])) (fun j => j ≤ 8) (fun j => 8 - j) 0 (by kernel_rfl) (by omega) ?_ (fun j hj => ?_)); rotate_left; have hnb := nFp_bd (f := (flagP (vAt (allL l D B) k) (stX l D B (vAt (allL l D B) k)))) (k := j) (hsk (by omega)) j) | with_reducible refine seq_i (a := Code.region 7 _ _) [(0, .pointer (some ⟨100, 0, none⟩)), (1, .int .i64 1), (2, .pointer (some ⟨102, 0, none⟩)), (13, .slice (some ⟨104, 0, none⟩) (allL l D B).length c2), (14, .int .i64 (allL l D B).length), (15, .int .i64 k), (46, .slice (some ⟨108, 0, none⟩) 8 8), (47, .int .i64 8), (48, .int .i64 0)] [.cells (psL 101 (.slice (some ⟨103, 0, none⟩) (allL l D B).length cc) D) 82, .cells (boardL B) 110, .cells (ints .i64 8 (fun i => n i + sumK (fun j => p1 (l, D, B) (vAt (allL l D B) j) i) k)) 28, .cells (vsL (allL l D B) ++ tc) 60, .cells (vsL (allL l D B) ++ t2) 60, .cells (mvL (vAt (allL l D B) k)) 60, .cells (boardL (updB B (vAt (allL l D B) k))) 110, .cells (psL 106 nilS (updD l D (vAt (allL l D B) k) B)) 82, .cells (fp8 (vAt (allL l D B) k) (stX l D B (vAt (allL l D B) k))) 4] ?_ (fun K hJ => ?_) | (with_reducible refine hJ _ _ ?_; clear hJ) | ((with_reducible refine call_fr (Update_ok D (vAt (allL l D B) k) B (allL l D B).length cc (vsL (allL l D B) ++ tc) hpc l hs.len hs.cr (hmk (by omega)).1.s1 (hmk (by omega)).1.s2 (hmk (by omega)).1.promo hs.half hs.mc) [0, 5, 1, 3] ?_ ?_ ?_ ?_); (· kernel_rfl); (· exact ⟨by kernel_rfl, by kernel_rfl, by kernel_rfl, by rw [plK hpc]; rfl, trivial⟩); (· kernel_rfl); intro xx hx; simp only [pmbL]; simp -implicitDefEqProofs only [fixL_eq, setAll_cons, setAll_nil, setAll_nil2, List.map_cons, List.map_nil, rn_cells, rn_ro, rn_any, rn_obj, boardL_map, mvL_map, psL_map, map_ints, List.set_cons_zero, List.set_cons_succ, List.length_cons, List.length_nil, List.drop_succ_cons, List.drop_zero, List.drop_nil, List.append_nil, List.nil_append, List.cons_append, rl_tuple, rl_int, rl_bool, rl_string, rl_ptr, rl_ptr0, rl_slice, rl_slice0, rl_agg, List.map_toArray, Array.map_empty, List.length_append, Nat.zero_add, Nat.reduceAdd, sig, Nat.reduceLT, Nat.reduceSub, ↓reduceIte, List.getElem?_cons_zero, List.getElem?_cons_succ, List.getElem?_nil, Nat.reduceAdd, Nat.add_zero, Nat.sub_self]; simp only [hpm, hpn]) | ((with_reducible refine call_r2 106 (statusX_ok (hst (by omega))) ?_ ?_ ?_ ?_ ?_ ?_); (· first | omega | decide); (· first | rfl | assumption | simp; done); (· first | omega | decide); (· first | rfl | assumption | simp; done); (· first | omega | decide)) | ((with_reducible refine qG_r2 106 (statusX_ok (hst (by omega))) ?_ ?_ ?_ ?_ ?_ ?_); (· first | omega | decide); (· first | rfl | assumption | simp; done); (· first | omega | decide); (· first | rfl | assumption | simp; done); (· first | omega | decide)) | ((with_reducible refine zG_r2 106 (statusX_ok (hst (by omega))) ?_ ?_ ?_ ?_ ?_ ?_); (· first | omega | decide); (· first | rfl | assumption | simp; done); (· first | omega | decide); (· first | rfl | assumption | simp; done); (· first | omega | decide)) | ((with_reducible refine call_ri (f := 40) ?_ ?_ ?_ ?_ ?_ ?_ ?_); rotate_left 3; (· first | omega | decide); (· first | rfl | simp; done); (· refine hasTag_ok _ <;> omega)) | ((with_reducible refine qG_ri (f := 40) ?_ ?_ ?_ ?_ ?_ ?_ ?_); rotate_left 3; (· first | omega | decide); (· first | rfl | simp; done); (· refine hasTag_ok _ <;> omega)) | ((with_reducible refine zG_ri (f := 40) ?_ ?_ ?_ ?_ ?_ ?_ ?_); rotate_left 3; (· first | omega | decide); (· first | rfl | simp; done); (· refine hasTag_ok _ <;> omega)) | ((with_reducible refine call_ri (f := 41) ?_ ?_ ?_ ?_ ?_ ?_ ?_); rotate_left 3; (· first | omega | decide); (· first | rfl | simp; done); (· refine promo_ok _ <;> omega)) | ((with_reducible refine qG_ri (f := 41) ?_ ?_ ?_ ?_ ?_ ?_ ?_); rotate_left 3; (· first | omega | decide); (· first | rfl | simp; done); (· refine promo_ok _ <;> omega)) | ((with_reducible refine zG_ri (f := 41) ?_ ?_ ?_ ?_ ?_ ?_ ?_); rotate_left 3; (· first | omega | decide); (· first | rfl | simp; done); (· refine promo_ok _ <;> omega)) | (with_reducible first | refine draw4 (id := 11) [.q, .q, .q, .q, .r, .q, .q, .q, .e []] [false, false, false, false, false, false, false, false, true] (by kernel_rfl) (by kernel_rfl) (by kernel_rfl) ?_ | refine draw (by kernel_rfl) (by kernel_rfl) ?_ | apply pz_e | apply pz_eg | apply py_e | refine seq_k fun K hK => ?_) | (with_reducible refine hK _ _ ?_; clear hK) | ((with_reducible first | refine gd_dec ?_ ?_ | refine gd_ndec ?_ ?_ | refine qC_dec ?_ ?_ | refine qC_ndec ?_ ?_ | refine piC_dec ?_ ?_ | refine piC_ndec ?_ ?_ | refine zC_dec ?_ ?_ | refine zC_ndec ?_ ?_ | refine zD_dec ?_ ?_ | refine yC_dec ?_ ?_ | refine yC_ndec ?_ ?_ | refine if_dec ?_ ?_ | refine if_ndec ?_ ?_) <;> intro hh) | simp -implicitDefEqProofs (disch := first | omega | assumption) only [go_sem, ↓reduceIte, Nat.reduceEqDiff, Int.reduceEq, Nat.reduceAdd, Nat.reduceSub, Nat.reduceMul, Nat.mul_one, Nat.one_mul, List.length_nil, List.length_cons, List.nil_append, List.cons_append, List.length_append, List.set_cons_zero, List.set_cons_succ, Nat.zero_add, Nat.sub_zero, Option.isNone_none, Option.isNone_some, Int.toNat_natCast, Nat.add_sub_cancel_left, Bool.not_true, Bool.not_false, BitVec.reduceOfInt, Int.reduceToNat, vsL_map, vsL_subT, mv_lit, wr_mv0, slH_some, pickV_T, pickV_F, onGd_T, onGd_F, fp8_g, wr_i8a] | ((with_reducible first | refine gd_bool ?_ ?_ | refine if_bool ?_ ?_ | refine qC_bool ?_ ?_ | refine piC_bool ?_ ?_ | refine zC_bool ?_ ?_ | refine zD_bool ?_ ?_ | refine yC_bool ?_ ?_) <;> intro hh) | clear hK)
  all_goals first
    | exact Nat.zero_le _
    | (exact VS.sub2 (by simp [Fr.sub, Fr.get]) rfl)
    | (simp only [sumK_0, Int.add_zero]
       exact VS.sub2 (by simp [Fr.sub, Fr.get]) rfl)
    | (refine ⟨(), trivial, ?_⟩
       have e : ∀ i, ptN 1 (l, D, B) i = 0 := fun i => by
         rw [ptN_1, show (allS (l, D, B)).length = 0 from hz]; exact sumK_0 _
       simp only [e, Int.add_zero]; exact VS.any2c rfl rfl pl_tup0 (ints_pl _ _ _))
    | (have hkk : k = (allL l D B).length := by omega
       refine ⟨(), trivial, ?_⟩
       have e : ∀ i, ptN 1 (l, D, B) i = sumK (fun j => p1 (l, D, B) (vAt (allL l D B) j) i) k := fun i => by rw [hkk]; exact ptN_1 (l, D, B) i
       simp only [e]; exact VS.any2c rfl rfl pl_tup0 (ints_pl _ _ _))
    | (rw [nFp_0]; refine VS.sub2 ?_ rfl
       simp [Fr.sub, Fr.get]; done)
    | (refine ⟨j + 1, by omega, by omega, VS.sub2 ?_ (by rw [← nFp_yes (by assumption)])⟩
       simp [Fr.sub, Fr.get]; done)
    | (refine ⟨j + 1, by omega, by omega, VS.sub2 ?_ (by rw [← nFp_no (by assumption)])⟩
       simp [Fr.sub, Fr.get]; done)
    | (obtain rfl : j = 8 := by omega
       have e : ints .i64 8 (nFp (flagP (vAt (allL l D B) k) (stX l D B (vAt (allL l D B) k))) (fun i => n i + sumK (fun j => p1 (l, D, B) (vAt (allL l D B) j) i) k) 8) = ints .i64 8 (fun i => n i + sumK (fun j => p1 (l, D, B) (vAt (allL l D B) j) i) (k + 1)) := by
         rw [nFp_end]
         refine ints_congr fun i _ => ?_
         rw [sumK_S, stX_e]; unfold p1; omega
       rw [e]
       refine ⟨k + 1, by omega, by omega, VS.cutT rfl (by simp) ⟨psL_wf (by simp) (wf_sl (by simp)), plW (boardL_pl B), plW (ints_pl _ _ _), plW hpc, plW hp2, trivial⟩ ?_⟩
       simp [subW, Fr.get, wf_int, wf_sl, wf_pt]; done)
    | (refine VS.sub2 ?_ ?_
       · simp [Fr.sub, Fr.get]; done
       · simp [fp8, tagOn, *]; done)
end Go.Tb
end
section
namespace Go.Tb
open Go Go.Proofs
set_option maxRecDepth 20000
theorem part_i {P : Program} (w : World) {e : TypeId} {k : IntKind} (he : P.underlying e = some (.int k)) {l : List Value} {off : Nat} {v : Value} (hx : l[off]? = some v) : (part e l.toArray off).run P w = .ok v w :=
  run_part_plain w (by simp [Program.plainKey, he]) (by simpa using hx)
theorem items_i {P : Program} (w : World) {e : TypeId} {k : IntKind} (he : P.underlying e = some (.int k)) (hc : P.cellsOf e = 1) (d n : Nat) (f g : Nat → Int) : ∀ is : List Nat, (∀ i ∈ is, i < n) →
    (Op.eqItems (d + 1) e 1 (ints k n f).toArray (ints k n g).toArray is).run P w = .ok (is.all fun i => f i == g i) w
  | [], _ => by simp [Op.eqItems]
  | i :: is, h => by
    have hi : i < n := h i (by simp)
    have p1 := part_i (P := P) w he (l := ints k n f) (off := i * 1) (v := .int k (f i)) (by rw [Nat.mul_one]; exact ints_get hi)
    have p2 := part_i (P := P) w he (l := ints k n g) (off := i * 1) (v := .int k (g i)) (by rw [Nat.mul_one]; exact ints_get hi)
    have p3 := run_equalIn_int (P := P) w d e k k (f i) (g i) he
    have ih := items_i (P := P) w he hc d n f g is fun j hj => h j (by simp [hj])
    simp only [Op.eqItems, Sem.run_bind, p1, p2, p3, Result.andThen_ok, List.all_cons]
    cases hx : (f i == g i)
    · simp
    · simpa using ih
theorem ints_rl (ρ : Nat → Nat) (k : IntKind) (n : Nat) (f : Nat → Int) : (ints k n f).toArray.map (rl ρ) = (ints k n f).toArray := by
  have : (ints k n f).map (rl ρ) = ints k n f := by simp [ints]
  simp [this]
theorem e_arr {P : Program} {t e : TypeId} {n : Nat} {i : TypeInfo} {k : IntKind} (ht : P.underlying t = some (.array n e)) (he : P.underlying e = some (.int k)) (hc : P.cellsOf e = 1) (hi : P.info? e = some i) (hg : P.eqGuardType P.depth t = false) (f g : Nat → Int) :
    binV P .eql t (.agg (ints k n f).toArray) (.agg (ints k n g).toArray) = some (.bool ((List.range n).all fun i => f i == g i)) := by
  have h : eqA P t (.agg (ints k n f).toArray) (.agg (ints k n g).toArray) = some ((List.range n).all fun i => f i == g i) := by
    refine eqA_of fun ρ w => ?_
    rw [rl_agg, rl_agg, ints_rl, ints_rl]
    refine ⟨?_, fun op p q => run_eqGuard_agg w op t p q _ _ hg⟩
    have := run_equalIn_array (P := P) w 9999 (ints k n f).toArray (ints k n g).toArray ht hi
    rw [hc, items_i w he hc 9998 n f g (List.range n) fun i h => List.mem_range.1 h] at this
    exact this
  show (eqA P t _ _).map Value.bool = _
  rw [h]; rfl
theorem e_28 (f g : Nat → Int) : binV Tryz.prog .eql 28 (.agg (ints .i64 8 f).toArray) (.agg (ints .i64 8 g).toArray) = some (.bool ((List.range 8).all fun i => f i == g i)) := by
  obtain ⟨i, hi⟩ : ∃ i, Tryz.prog.info? 3 = some i := by
    cases h : Tryz.prog.info? 3 with
    | some i => exact ⟨i, rfl⟩
    | none =>
      have := Tryz.underlying3
      unfold Program.underlying at this
      rw [h] at this; cases this
  exact e_arr Tryz.underlying28 Tryz.underlying3 (by kernel_rfl) hi (by kernel_rfl) f g
theorem e_28s (f : Nat → Int) : binV Tryz.prog .eql 28 (.agg (ints .i64 8 f).toArray) (.agg (ints .i64 8 f).toArray) = some (.bool true) := by
  rw [e_28]; simp
end Go.Tb
end
section
namespace Go.Tb
open Go Go.Proofs
variable {z : Nat × Nat}
set_option maxRecDepth 20000
theorem pt_ok : ∀ d : Nat, d + 1 ≤ 5 → PtC z (d + 1)
  | 0, _ => pt_ok1
  | d + 1, h => pt_okS d h (pt_ok d (by omega))
theorem F20_ok (cap : Array Value) (w : World) (hc : cap.size = 2) : CallsD Tryz.prog 20 cap .returning w fun e u' w' => u' = .returning ∧ (∃ v, e = .returned v) ∧ w' = w := by
  obtain ⟨x, y, rfl⟩ := arr2 hc
  refine callsD_of_wpS Tryz.func20 rfl fun c₀ cs hu => ?_
  apply wpS_seq
  apply wpS_region
  simp [wpOpsS, go_sem, recoverD, hu, Tryz.ntmps20, Exit.thenS]
  refine wpS_cond (t := false) (by simp [Act.eval, Array.replicate]) ?_
  simp only [Bool.false_eq_true, if_false]
  refine wpS_of_wp (wp_skip ?_)
  cases c₀
  simp_all [bodyPostS, results, Tryz.results20]
attribute [local irreducible] stC brdC posC crT ptN in
set_option maxHeartbeats 4000000 in
theorem PerftTags_ok (c : Nat → Int) (d : Nat) (hd : d + 1 ≤ 5) (hc : PosIn c) (hp : PtOk (d + 1) (stC c)) : FnP (Tz z) 10 [posV c, .int .i64 ((d + 1 : Nat) : Int)] (.tuple [.agg (ints .i64 8 (ptN (d + 1) (stC c))).toArray, .bool true].toArray) := by
  have hpf := pt_ok (z := z) d hd
  unfold PtC at hpf
  have h5 : (220 : Int) ^ (d + 1) ≤ 220 ^ 5 := pow_le5 hd
  have hpf := hpf (stC c) zeroF hp (fun i => ⟨Int.le_refl 0, by show (0 : Int) + _ ≤ _; omega⟩)
  have hz : (fun i => zeroF i + ptN (d + 1) (stC c) i) = ptN (d + 1) (stC c) := funext fun i => by show (0 : Int) + _ = _; omega
  rw [hz] at hpf
  refine ⟨by simp [posV_pl, Pl.int], ask_res _ _, ?_⟩
  refine startD (N := 19) (g := 20) (fn := Tryz.f10) [0, 1, 2, 4, 5, 12] 2 [(0, posV c), (1, .int .i64 ((d + 1 : Nat) : Int)), (2, .pointer (some ⟨100, 0, none⟩)), (4, .pointer (some ⟨101, 0, none⟩)), (5, .pointer (some ⟨102, 0, none⟩))] [.cells (ints .i64 69 c) 24, .cells (ints .i64 8 zeroF) 28, .cells [.bool false] 4] Tryz.func10 rfl rfl rfl (by kernel_rfl) (by kernel_rfl) (by simp) ?_ ?_ (by kernel_rfl) (fun cap w h => F20_ok cap w h) (fun D => ?_)
  · unfold posV
    repeat' (first | with_reducible refine seq_k fun K hK => ?_ | (with_reducible refine hK _ _ ?_; clear hK) | ((with_reducible first | refine gd_dec ?_ ?_ | refine gd_ndec ?_ ?_ | refine qC_dec ?_ ?_ | refine qC_ndec ?_ ?_ | refine piC_dec ?_ ?_ | refine piC_ndec ?_ ?_ | refine zC_dec ?_ ?_ | refine zC_ndec ?_ ?_ | refine zD_dec ?_ ?_ | refine yC_dec ?_ ?_ | refine yC_ndec ?_ ?_ | refine if_dec ?_ ?_ | refine if_ndec ?_ ?_) <;> intro hh) | simp -implicitDefEqProofs (disch := first | omega | assumption) only [go_sem, ↓reduceIte, Nat.reduceEqDiff, Int.reduceEq, Nat.reduceAdd, Nat.reduceSub, Nat.reduceMul, Nat.mul_one, Nat.one_mul, List.length_nil, List.length_cons, List.nil_append, List.cons_append, List.length_append, List.set_cons_zero, List.set_cons_succ, Nat.zero_add, Nat.sub_zero, Option.isNone_none, Option.isNone_some, Int.toNat_natCast, Nat.add_sub_cancel_left, Bool.not_true, Bool.not_false, BitVec.reduceOfInt, Int.reduceToNat, zero8] | ((with_reducible first | refine gd_bool ?_ ?_ | refine if_bool ?_ ?_ | refine qC_bool ?_ ?_ | refine piC_bool ?_ ?_ | refine zC_bool ?_ ?_ | refine zD_bool ?_ ?_ | refine yC_bool ?_ ?_) <;> intro hh) | clear hK)
    exact ⟨trivial, trivial, trivial⟩
  · intro a w h1 h2
    apply wp_region
    have hmf : ∀ (fn : Fn) (first cap : Array Value) (w : World), (Instr.makeFunc fn first cap).run Tryz.prog w = .ok (.func fn first cap) w := fun _ _ _ _ => rfl
    simp [Go.wpOps, go_sem, hmf, h1, h2]
    refine .inl (.inl fun t v hv => ?_)
    rw [Array.getElem?_setIfInBounds_ne]
    rintro rfl
    simp at hv
  · have h1 : ¬ ((d + 1 : Nat) : Int) < 1 := by omega
    have h2 : ¬ (5 : Int) < ((d + 1 : Nat) : Int) := by omega
    unfold posV
    repeat' (first | ((with_reducible refine call_fr (position_ok c hc.bd hc.turn hc.cast hc.ep hc.half hc.full) [] ?_ ?_ ?_ ?_); (· kernel_rfl); (· exact trivial); (· kernel_rfl); intro xx hx; simp -implicitDefEqProofs only [fixL_eq, setAll_cons, setAll_nil, setAll_nil2, List.map_cons, List.map_nil, rn_cells, rn_ro, rn_any, rn_obj, boardL_map, mvL_map, psL_map, map_ints, List.set_cons_zero, List.set_cons_succ, List.length_cons, List.length_nil, List.drop_succ_cons, List.drop_zero, List.drop_nil, List.append_nil, List.nil_append, List.cons_append, rl_tuple, rl_int, rl_bool, rl_string, rl_ptr, rl_ptr0, rl_slice, rl_slice0, rl_agg, List.map_toArray, Array.map_empty, List.length_append, Nat.zero_add, Nat.reduceAdd, sig, Nat.reduceLT, Nat.reduceSub, ↓reduceIte, List.getElem?_cons_zero, List.getElem?_cons_succ, List.getElem?_nil, Nat.reduceAdd, Nat.add_zero, Nat.sub_self]) | ((with_reducible refine call_fr (hpf) [8, 7, 1] ?_ ?_ ?_ ?_); (· kernel_rfl); (· exact ⟨by kernel_rfl, by kernel_rfl, by kernel_rfl, trivial⟩); (· kernel_rfl); intro xx hx; simp -implicitDefEqProofs only [fixL_eq, setAll_cons, setAll_nil, setAll_nil2, List.map_cons, List.map_nil, rn_cells, rn_ro, rn_any, rn_obj, boardL_map, mvL_map, psL_map, map_ints, List.set_cons_zero, List.set_cons_succ, List.length_cons, List.length_nil, List.drop_succ_cons, List.drop_zero, List.drop_nil, List.append_nil, List.nil_append, List.cons_append, rl_tuple, rl_int, rl_bool, rl_string, rl_ptr, rl_ptr0, rl_slice, rl_slice0, rl_agg, List.map_toArray, Array.map_empty, List.length_append, Nat.zero_add, Nat.reduceAdd, sig, Nat.reduceLT, Nat.reduceSub, ↓reduceIte, List.getElem?_cons_zero, List.getElem?_cons_succ, List.getElem?_nil, Nat.reduceAdd, Nat.add_zero, Nat.sub_self]) | with_reducible refine seq_k fun K hK => ?_ | (with_reducible refine hK _ _ ?_; clear hK) | ((with_reducible first | refine gd_dec ?_ ?_ | refine gd_ndec ?_ ?_ | refine qC_dec ?_ ?_ | refine qC_ndec ?_ ?_ | refine piC_dec ?_ ?_ | refine piC_ndec ?_ ?_ | refine zC_dec ?_ ?_ | refine zC_ndec ?_ ?_ | refine zD_dec ?_ ?_ | refine yC_dec ?_ ?_ | refine yC_ndec ?_ ?_ | refine if_dec ?_ ?_ | refine if_ndec ?_ ?_) <;> intro hh) | simp -implicitDefEqProofs (disch := first | omega | assumption) only [go_sem, ↓reduceIte, Nat.reduceEqDiff, Int.reduceEq, Nat.reduceAdd, Nat.reduceSub, Nat.reduceMul, Nat.mul_one, Nat.one_mul, List.length_nil, List.length_cons, List.nil_append, List.cons_append, List.length_append, List.set_cons_zero, List.set_cons_succ, Nat.zero_add, Nat.sub_zero, Option.isNone_none, Option.isNone_some, Int.toNat_natCast, Nat.add_sub_cancel_left, Bool.not_true, Bool.not_false, BitVec.reduceOfInt, Int.reduceToNat, onGd_T, onGd_F, pickV_T, pickV_F, wr_o1, wr_o1b, decT, decF, zero8, sub_ints, wr_i8] | ((with_reducible first | refine gd_bool ?_ ?_ | refine if_bool ?_ ?_ | refine qC_bool ?_ ?_ | refine piC_bool ?_ ?_ | refine zC_bool ?_ ?_ | refine zD_bool ?_ ?_ | refine yC_bool ?_ ?_) <;> intro hh) | clear hK)
    all_goals first
      | rfl
end Go.Tb
end
