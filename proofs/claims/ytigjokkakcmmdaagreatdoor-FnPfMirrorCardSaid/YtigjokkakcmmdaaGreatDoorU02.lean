/-
  A part of the proof (my own): of the texts that the claim's last text rests on: parts R1.
-/
import Derived.Test.YtigjokkakcmmdaaGreatDoorT23
set_option linter.unusedSimpArgs false
set_option linter.unusedVariables false
section
namespace Go.Tb
open Go Go.Proofs
variable {z : Nat × Nat}
set_option maxRecDepth 20000
theorem fK_pre (f : Nat → List Mv) {k n : Nat} (h : k ≤ n) : fK f k <+: fK f n := by
  induction n with
  | zero => rw [show k = 0 by omega]; exact List.prefix_refl _
  | succ n ih =>
    rcases Nat.lt_or_ge k (n + 1) with h1 | h1
    · exact (ih (by omega)).trans (List.prefix_append _ _)
    · rw [show k = n + 1 by omega]; exact List.prefix_refl _
section
variable {D : Pd} {B : Brd} {k s1 s2 q : Nat}
theorem aK1_pre (h : k ≤ 12) : stdK D B k <+: stdL D B := fK_pre _ h
theorem aK2_pre (h : k < 12) (ht : D.turn = pCol ((k : Int) + 1)) (h1 : s1 ≤ 64) : aK2 D B k s1 <+: stdL D B := by
  have h2 := aK1_pre (D := D) (B := B) (k := k + 1) h
  rw [stdK_e ht] at h2
  refine List.IsPrefix.trans ?_ h2
  unfold aK2 s1L
  exact (List.prefix_append_right_inj _).2 (fK_pre _ h1)
theorem aK3_pre (h : k < 12) (ht : D.turn = pCol ((k : Int) + 1)) (h1 : s1 < 64) (hg : ¬ getP B ((k : Int) + 1) &&& sqB s1 = 0#64) (h2 : s2 ≤ 64) : aK3 D B k s1 s2 <+: stdL D B := by
  have h3 := aK2_pre (B := B) h ht (s1 := s1 + 1) h1
  rw [aK2_e hg] at h3
  refine List.IsPrefix.trans ?_ h3
  unfold aK3 s2L
  exact (List.prefix_append_right_inj _).2 (fK_pre _ h2)
theorem aK4_pre (h : k < 12) (ht : D.turn = pCol ((k : Int) + 1)) (h1 : s1 < 64) (hg : ¬ getP B ((k : Int) + 1) &&& sqB s1 = 0#64) (h2 : s2 < 64) (ho : ¬ toB D B ((k : Int) + 1) s1 &&& sqB s2 = 0#64) (hp : promS ((k : Int) + 1) s2 = true) (hq : q ≤ 4) : aK4 D B k s1 s2 q <+: stdL D B := by
  have h3 := aK3_pre h ht h1 hg (s2 := s2 + 1) h2
  rw [aK3_p ho hp] at h3
  refine List.IsPrefix.trans ?_ h3
  unfold aK4 qrL
  exact (List.prefix_append_right_inj _).2 (fK_pre _ hq)
theorem take_pre {l m : List Mv} {x : Mv} (h : l <+: m) (e : l = [x]) : [x] = m.take 1 := by
  obtain ⟨t, rfl⟩ := h
  rw [e]; rfl
theorem found_n (h : k < 12) (ht : D.turn = pCol ((k : Int) + 1)) (h1 : s1 < 64) (hg : ¬ getP B ((k : Int) + 1) &&& sqB s1 = 0#64) (h2 : s2 < 64) (ho : ¬ toB D B ((k : Int) + 1) s1 &&& sqB s2 = 0#64) (hp : promS ((k : Int) + 1) s2 = false) (hk : ¬ 0 < band .u16 32 (nmM D B s1 s2).tags) (he : aK3 D B k s1 s2 = []) : [nmM D B s1 s2] = (stdL D B).take 1 :=
  take_pre (aK3_pre h ht h1 hg (s2 := s2 + 1) h2) (by rw [aK3_s ho hp, keepM_y hk, he]; rfl)
theorem found_q (h : k < 12) (ht : D.turn = pCol ((k : Int) + 1)) (h1 : s1 < 64) (hg : ¬ getP B ((k : Int) + 1) &&& sqB s1 = 0#64) (h2 : s2 < 64) (ho : ¬ toB D B ((k : Int) + 1) s1 &&& sqB s2 = 0#64) (hp : promS ((k : Int) + 1) s2 = true) (hq : q < 4) (hk : ¬ 0 < band .u16 32 (qrM D B s1 s2 q).tags) (he : aK4 D B k s1 s2 q = []) : [qrM D B s1 s2 q] = (stdL D B).take 1 :=
  take_pre (aK4_pre h ht h1 hg h2 ho hp (q := q + 1) hq) (by rw [aK4_S, keepM_y hk, he]; rfl)
end
theorem sub_pad1 {n : Nat} {m : Mv} : sub (vsL (padV n [m])) 0 11 = some (mvL m) := by
  have := vsL_subT (l := [m]) (tl := vsL (List.replicate (n - 1) zMv)) (i := 0) (by simp)
  rw [← vsL_app] at this
  exact this
theorem ms_0 : msF (some (60, 11, 96)) (some (mvL ⟨0, 0, 0, 0⟩)) 0 0 = some (60, 0, 0, []) := ms_vs (n := 0) (by decide)
theorem sl126_0 {b : Nat} : sliceV Tryz.prog 126 (.pointer (some ⟨b, 0, none⟩)) none (some (some (.int .i64 0))) = some (.slice (some ⟨b, 0, none⟩) 0 218) := sl126 (k := 0) (by decide)
attribute [local irreducible] stdL stdK aK2 aK3 aK4 toB allowB promS nmM qrM qrT keepM getP pCol pTyp tg4 sqB pmB in
set_option maxHeartbeats 8000000 in
theorem std1_ok (D : Pd) (B : Brd) (he : -1 ≤ D.ep ∧ D.ep ≤ 63) (ht : D.turn = 1 ∨ D.turn = 2) (hw : -1 ≤ B.wks ∧ B.wks ≤ 63) (hb : -1 ≤ B.bks ∧ B.bks ≤ 63) :
    FnM (Tz z) 68 [.pointer (some ⟨100, 0, none⟩), .bool true] [.cells (psL 101 nilS D) 82, .cells (boardL B) 110] (fun p : List Mv × TypeId => p.1 = (stdL D B).take 1) (fun p => .slice (some ⟨102, 0, none⟩) p.1.length p.1.length) (fun p => [.cells (psL 101 nilS D) 82, .cells (boardL B) 110, .cells (vsL p.1) p.2]) := by
  refine ⟨?_, pb_wl D B, fun _ _ o ho => ?_, CallM.shiftX (start [0, 1, 4, 5, 6, 7, 8, 10, 11, 12, 13, 14, 16, 17, 18, 19, 30, 39, 40, 41, 42, 49, 57, 58, 59, 66, 76, 77, 78, 85, 110, 111, 112, 113, 114, 122, 128, 138, 144] Tryz.func68 rfl (by decide) rfl (by kernel_rfl) (by simp [Tryz.f68]) ?_)⟩
  · intro u hu
    simp only [List.mem_cons, List.not_mem_nil, or_false] at hu
    rcases hu with rfl | rfl
    · exact WF_ptrN (by simp)
    · exact wf_bool
  · simp at ho; subst ho; rfl
  simp only [Tryz.f68]
  have mk2 : True := trivial
  repeat' (first | with_reducible refine seq_i (a := Code.seq (Code.region 5 _ _) _) [(0, .pointer (some ⟨100, 0, none⟩)), (1, .bool true), (5, .pointer (some ⟨102, 0, none⟩)), (7, .pointer (some ⟨103, 0, none⟩)), (8, bv (allowB D B)), (6, .int .i64 0)] [.cells (psL 101 nilS D) 82, .cells (boardL B) 110, .cells (vsL (padV 218 [])) 126, .cells (mvL ⟨0, 0, 0, 0⟩) 60] ?_ (fun K hJ => ?_) | ((with_reducible refine loop (c := Code.seq (Code.region 8 _ _) _) (V := [0, 1, 4, 5, 6, 7, 8, 10, 11, 12, 13, 14, 16, 17, 18, 19, 30, 39, 40, 41, 42, 49, 57, 58, 59, 66, 76, 77, 78, 85, 110, 111, 112, 113, 114, 122, 128, 138, 144]) (fun y : Nat × Mv => ([(0, .pointer (some ⟨100, 0, none⟩)), (1, .bool true), (5, .pointer (some ⟨102, 0, none⟩)), (7, .pointer (some ⟨103, 0, none⟩)), (8, bv (allowB D B)), (6, .int .i64 0), (39, .slice (some ⟨12, z.1, none⟩) 12 12), (40, .int .i64 12), (41, .int .i64 y.1)], [.cells (psL 101 nilS D) 82, .cells (boardL B) 110, .cells (vsL (padV 218 [])) 126, .cells (mvL y.2) 60])) (fun y => y.1 ≤ 12 ∧ stdK D B y.1 = []) (fun y => 12 - y.1) (0, ⟨0, 0, 0, 0⟩) (by kernel_rfl) ?_ ?_ (fun y hk => ?_)); rotate_left 2; obtain ⟨k, M0⟩ := y; simp only at hk; obtain ⟨hk, f1⟩ := hk) | (with_reducible refine hJ _ _ ?_; clear hJ) | ((with_reducible refine loop (c := Code.seq (Code.region 14 _ _) _) (V := [0, 1, 4, 5, 6, 7, 8, 10, 11, 12, 13, 14, 16, 17, 18, 19, 30, 39, 40, 41, 42, 49, 57, 58, 59, 66, 76, 77, 78, 85, 110, 111, 112, 113, 114, 122, 128, 138, 144]) (fun y : Nat × Mv => ([(0, .pointer (some ⟨100, 0, none⟩)), (1, .bool true), (5, .pointer (some ⟨102, 0, none⟩)), (7, .pointer (some ⟨103, 0, none⟩)), (8, bv (allowB D B)), (39, .slice (some ⟨12, z.1, none⟩) 12 12), (40, .int .i64 12), (41, .int .i64 k), (10, .int .i8 ((k : Int) + 1)), (11, bv (getP B ((k : Int) + 1))), (6, .int .i64 0), (58, .int .i64 y.1)], [.cells (psL 101 nilS D) 82, .cells (boardL B) 110, .cells (vsL (padV 218 [])) 126, .cells (mvL y.2) 60])) (fun y => y.1 ≤ 64 ∧ aK2 D B k y.1 = []) (fun y => 64 - y.1) (0, M0) (by kernel_rfl) ⟨by omega, by rw [aK2_0]; exact f1⟩ ?_ (fun y hj => ?_)); rotate_left 1; obtain ⟨j, M1⟩ := y; simp only at hj; obtain ⟨hj, f2⟩ := hj) | ((with_reducible refine loop (c := Code.seq (Code.region 20 _ _) _) (V := [0, 1, 4, 5, 6, 7, 8, 10, 11, 12, 13, 14, 16, 17, 18, 19, 30, 39, 40, 41, 42, 49, 57, 58, 59, 66, 76, 77, 78, 85, 110, 111, 112, 113, 114, 122, 128, 138, 144]) (fun y : Nat × Mv => ([(0, .pointer (some ⟨100, 0, none⟩)), (1, .bool true), (5, .pointer (some ⟨102, 0, none⟩)), (7, .pointer (some ⟨103, 0, none⟩)), (8, bv (allowB D B)), (39, .slice (some ⟨12, z.1, none⟩) 12 12), (40, .int .i64 12), (41, .int .i64 k), (10, .int .i8 ((k : Int) + 1)), (11, bv (getP B ((k : Int) + 1))), (58, .int .i64 j), (12, .int .i64 j), (13, bv (toB D B ((k : Int) + 1) j)), (6, .int .i64 0), (77, .int .i64 y.1)], [.cells (psL 101 nilS D) 82, .cells (boardL B) 110, .cells (vsL (padV 218 [])) 126, .cells (mvL y.2) 60])) (fun y => y.1 ≤ 64 ∧ aK3 D B k j y.1 = []) (fun y => 64 - y.1) (0, M1) (by kernel_rfl) ⟨by omega, by rw [aK3_0]; exact f2⟩ ?_ (fun y hi => ?_)); rotate_left 1; obtain ⟨i, M2⟩ := y; simp only at hi; obtain ⟨hi, f3⟩ := hi) | ((with_reducible refine loop (c := Code.seq (Code.region 28 _ _) _) (V := [0, 1, 4, 5, 6, 7, 8, 10, 11, 12, 13, 14, 16, 17, 18, 19, 30, 39, 40, 41, 42, 49, 57, 58, 59, 66, 76, 77, 78, 85, 110, 111, 112, 113, 114, 122, 128, 138, 144]) (fun y : Nat × Int => ([(0, .pointer (some ⟨100, 0, none⟩)), (1, .bool true), (5, .pointer (some ⟨102, 0, none⟩)), (7, .pointer (some ⟨103, 0, none⟩)), (8, bv (allowB D B)), (39, .slice (some ⟨12, z.1, none⟩) 12 12), (40, .int .i64 12), (41, .int .i64 k), (10, .int .i8 ((k : Int) + 1)), (11, bv (getP B ((k : Int) + 1))), (58, .int .i64 j), (12, .int .i64 j), (13, bv (toB D B ((k : Int) + 1) j)), (77, .int .i64 i), (6, .int .i64 0), (14, .int .i64 i), (111, .slice (some ⟨13, z.2, none⟩) 4 4), (112, .int .i64 4), (113, .int .i64 y.1)], [.cells (psL 101 nilS D) 82, .cells (boardL B) 110, .cells (vsL (padV 218 [])) 126, .cells (mvL ⟨qrT D B j i y.1, j, i, y.2⟩) 60])) (fun y => y.1 ≤ 4 ∧ aK4 D B k j i y.1 = []) (fun y => 4 - y.1) (0, M2.promo) (by kernel_rfl) ⟨by omega, by rw [aK4_0]; exact f3⟩ ?_ (fun y hq => ?_)); rotate_left 1; obtain ⟨q, r⟩ := y; simp only at hq; obtain ⟨hq, f4⟩ := hq) | with_reducible refine seq_i (a := Code.region 26 _ _) [(0, .pointer (some ⟨100, 0, none⟩)), (1, .bool true), (5, .pointer (some ⟨102, 0, none⟩)), (7, .pointer (some ⟨103, 0, none⟩)), (8, bv (allowB D B)), (39, .slice (some ⟨12, z.1, none⟩) 12 12), (40, .int .i64 12), (41, .int .i64 k), (10, .int .i8 ((k : Int) + 1)), (11, bv (getP B ((k : Int) + 1))), (58, .int .i64 j), (12, .int .i64 j), (13, bv (toB D B ((k : Int) + 1) j)), (77, .int .i64 i), (6, .int .i64 0), (14, .int .i64 i), (110, .bool (promS ((k : Int) + 1) i))] [.cells (psL 101 nilS D) 82, .cells (boardL B) 110, .cells (vsL (padV 218 [])) 126, .cells (mvL ⟨0, j, i, M2.promo⟩) 60] ?_ (fun K hJ => ?_) | (have hz : k = 12 := (by omega); subst hz; clear mk2) | ((with_reducible refine cpy_k ?_); refine cpy_vs (X := Tz z) (i := 4) (j := 2) (N := 218) (e := 60) (b := 96) (l := []) (by kernel_rfl) (by kernel_rfl) rfl rfl ?_) | ((with_reducible refine call_r2 101 (turn_ok D B) ?_ ?_ ?_ ?_ ?_ ?_); (· first | omega | decide); (· first | rfl | assumption | simp; done); (· first | omega | decide); (· first | rfl | assumption | simp; done); (· first | omega | decide)) | ((with_reducible refine qG_r2 101 (turn_ok D B) ?_ ?_ ?_ ?_ ?_ ?_); (· first | omega | decide); (· first | rfl | assumption | simp; done); (· first | omega | decide); (· first | rfl | assumption | simp; done); (· first | omega | decide)) | ((with_reducible refine zG_r2 101 (turn_ok D B) ?_ ?_ ?_ ?_ ?_ ?_); (· first | omega | decide); (· first | rfl | assumption | simp; done); (· first | omega | decide); (· first | rfl | assumption | simp; done); (· first | omega | decide)) | (with_reducible first | refine call_p (color_ok) ?_ | refine qG_call (color_ok) ?_ | refine zG_call (color_ok) ?_ | refine yG_call (color_ok) ?_ | refine piG_call (color_ok) ?_ | refine call_p (type_ok) ?_ | refine qG_call (type_ok) ?_ | refine zG_call (type_ok) ?_ | refine yG_call (type_ok) ?_ | refine piG_call (type_ok) ?_) | ((with_reducible refine call_ri (f := 71) ?_ ?_ ?_ ?_ ?_ ?_ ?_); rotate_left 3; (· first | omega | decide); (· first | rfl | simp; done); (· refine bbFor_ok _ ?_ <;> omega)) | ((with_reducible refine qG_ri (f := 71) ?_ ?_ ?_ ?_ ?_ ?_ ?_); rotate_left 3; (· first | omega | decide); (· first | rfl | simp; done); (· refine bbFor_ok _ ?_ <;> omega)) | ((with_reducible refine zG_ri (f := 71) ?_ ?_ ?_ ?_ ?_ ?_ ?_); rotate_left 3; (· first | omega | decide); (· first | rfl | simp; done); (· refine bbFor_ok _ ?_ <;> omega)) | (with_reducible first | refine call_p (bbSq_ok (by omega)) ?_ | refine qG_call (bbSq_ok (by omega)) ?_ | refine zG_call (bbSq_ok (by omega)) ?_ | refine yG_call (bbSq_ok (by omega)) ?_ | refine piG_call (bbSq_ok (by omega)) ?_) | ((with_reducible refine call_fr (nTags_ok D B j i (by omega) (by omega) ht hw hb) [3, 0, 1] ?_ ?_ ?_ ?_); (· kernel_rfl); (· exact ⟨by rfl, by kernel_rfl, by kernel_rfl, trivial⟩); (· kernel_rfl); intro xx hx; simp -implicitDefEqProofs only [fixL_eq, setAll_cons, setAll_nil, setAll_nil2, List.map_cons, List.map_nil, rn_cells, rn_ro, rn_any, rn_obj, boardL_map, mvL_map, psL_map, map_ints, List.set_cons_zero, List.set_cons_succ, List.length_cons, List.length_nil, List.drop_succ_cons, List.drop_zero, List.drop_nil, List.append_nil, List.nil_append, List.cons_append, rl_tuple, rl_int, rl_bool, rl_string, rl_ptr, rl_ptr0, rl_slice, rl_slice0, rl_agg, List.map_toArray, Array.map_empty, List.length_append, Nat.zero_add, Nat.reduceAdd, sig, Nat.reduceLT, Nat.reduceSub, ↓reduceIte, List.getElem?_cons_zero, List.getElem?_cons_succ, List.getElem?_nil, Nat.reduceAdd, Nat.add_zero, Nat.sub_self]) | ((with_reducible refine call_fr (qTags_ok D B j i q (by omega) (by omega) (by omega) (pieceAt_pos (k := k) (by omega) (by omega) (by assumption)) ht hw hb) [3, 0, 1] ?_ ?_ ?_ ?_); (· kernel_rfl); (· exact ⟨by rfl, by kernel_rfl, by kernel_rfl, trivial⟩); (· kernel_rfl); intro xx hx; simp -implicitDefEqProofs only [fixL_eq, setAll_cons, setAll_nil, setAll_nil2, List.map_cons, List.map_nil, rn_cells, rn_ro, rn_any, rn_obj, boardL_map, mvL_map, psL_map, map_ints, List.set_cons_zero, List.set_cons_succ, List.length_cons, List.length_nil, List.drop_succ_cons, List.drop_zero, List.drop_nil, List.append_nil, List.nil_append, List.cons_append, rl_tuple, rl_int, rl_bool, rl_string, rl_ptr, rl_ptr0, rl_slice, rl_slice0, rl_agg, List.map_toArray, Array.map_empty, List.length_append, Nat.zero_add, Nat.reduceAdd, sig, Nat.reduceLT, Nat.reduceSub, ↓reduceIte, List.getElem?_cons_zero, List.getElem?_cons_succ, List.getElem?_nil, Nat.reduceAdd, Nat.add_zero, Nat.sub_self]) | ((with_reducible refine call_ri (f := 40) ?_ ?_ ?_ ?_ ?_ ?_ ?_); rotate_left 3; (· first | omega | decide); (· first | rfl | simp; done); (· refine hasTag_ok _ <;> omega)) | ((with_reducible refine qG_ri (f := 40) ?_ ?_ ?_ ?_ ?_ ?_ ?_); rotate_left 3; (· first | omega | decide); (· first | rfl | simp; done); (· refine hasTag_ok _ <;> omega)) | ((with_reducible refine zG_ri (f := 40) ?_ ?_ ?_ ?_ ?_ ?_ ?_); rotate_left 3; (· first | omega | decide); (· first | rfl | simp; done); (· refine hasTag_ok _ <;> omega)) | ((with_reducible refine call_r2 101 (possible_ok D B (by omega) he ht) ?_ ?_ ?_ ?_ ?_ ?_); (· first | omega | decide); (· first | rfl | assumption | simp; done); (· first | omega | decide); (· first | rfl | assumption | simp; done); (· first | omega | decide)) | ((with_reducible refine qG_r2 101 (possible_ok D B (by omega) he ht) ?_ ?_ ?_ ?_ ?_ ?_); (· first | omega | decide); (· first | rfl | assumption | simp; done); (· first | omega | decide); (· first | rfl | assumption | simp; done); (· first | omega | decide)) | ((with_reducible refine zG_r2 101 (possible_ok D B (by omega) he ht) ?_ ?_ ?_ ?_ ?_ ?_); (· first | omega | decide); (· first | rfl | assumption | simp; done); (· first | omega | decide); (· first | rfl | assumption | simp; done); (· first | omega | decide)) | (with_reducible first | refine draw (by kernel_rfl) (by kernel_rfl) ?_ | apply pz_e | apply pz_eg | apply py_e | refine call_p (sqRank_ok (by omega)) ?_ | refine qG_call (sqRank_ok (by omega)) ?_ | refine zG_call (sqRank_ok (by omega)) ?_ | refine yG_call (sqRank_ok (by omega)) ?_ | refine piG_call (sqRank_ok (by omega)) ?_ | refine yC_decT (by assumption) ?_ | refine yC_decF (by assumption) ?_ | refine yC_bT (by assumption) ?_ | refine yC_bF (by assumption) ?_ | refine seq_k fun K hK => ?_) | (with_reducible refine hK _ _ ?_; clear hK) | ((with_reducible first | refine gd_dec ?_ ?_ | refine gd_ndec ?_ ?_ | refine qC_dec ?_ ?_ | refine qC_ndec ?_ ?_ | refine piC_dec ?_ ?_ | refine piC_ndec ?_ ?_ | refine zC_dec ?_ ?_ | refine zC_ndec ?_ ?_ | refine zD_dec ?_ ?_ | refine yC_dec ?_ ?_ | refine yC_ndec ?_ ?_ | refine if_dec ?_ ?_ | refine if_ndec ?_ ?_) <;> intro hh) | simp -implicitDefEqProofs (disch := first | omega | assumption) only [go_sem, ↓reduceIte, Nat.reduceEqDiff, Int.reduceEq, Nat.reduceAdd, Nat.reduceSub, Nat.reduceMul, Nat.mul_one, Nat.one_mul, List.length_nil, List.length_cons, List.nil_append, List.cons_append, List.length_append, List.set_cons_zero, List.set_cons_succ, Nat.zero_add, Nat.sub_zero, Option.isNone_none, Option.isNone_some, Int.toNat_natCast, Nat.add_sub_cancel_left, Bool.not_true, Bool.not_false, BitVec.reduceOfInt, Int.reduceToNat, sl126, Option.map_none, Option.map_some, rep_vs, rep_vs2, mv_lit, wr_mv0, wr_pad, wr_pad0, ms_0, sl126_0, sl132, sub_pad1, wr_pad0, toB_of, all_get, pro_get, i8s_len] | ((with_reducible first | refine gd_bool ?_ ?_ | refine if_bool ?_ ?_ | refine qC_bool ?_ ?_ | refine piC_bool ?_ ?_ | refine zC_bool ?_ ?_ | refine zD_bool ?_ ?_ | refine yC_bool ?_ ?_) <;> intro hh) | clear hK)
  all_goals first
    | omega
    | exact ⟨Nat.zero_le _, stdK_0⟩
    | (refine VS.sub2 ?_ ?_ <;> (simp [Fr.sub, Fr.get, stdK_0]; done))
    | (have e := allow_y (B := B) (D := D) (by assumption)
       refine VS.sub2 ?_ ?_ <;> (simp [Fr.sub, Fr.get, bv, e]; (try omega); done))
    | (have e := allow_n (B := B) (D := D) (by assumption)
       refine VS.sub2 ?_ ?_ <;> (simp [Fr.sub, Fr.get, bv, e]; (try omega); done))
    | (have e2 := qrT_0 D B j i
       refine VS.sub2 ?_ ?_ <;> (simp [Fr.sub, Fr.get, bv, e2]; done))
    | (by_cases hp : (((k : Int) + 1 = 6 ∧ (i : Int) / 8 = 7) ∨ ((k : Int) + 1 = 12 ∧ (i : Int) / 8 = 0))
       · have e := promS_y hp
         refine VS.sub2 ?_ ?_ <;> first | (exfalso; omega) | (simp [Fr.sub, Fr.get, bv, e]; (try omega); done)
       · have e := promS_n hp
         refine VS.sub2 ?_ ?_ <;> first | (exfalso; omega) | (simp [Fr.sub, Fr.get, bv, e]; (try omega); done))
    | (have e := stdK_n (B := B) (k := k) (by assumption)
       refine ⟨(k + 1, M0), ⟨by omega, e.trans f1⟩, ?_, VS.sub2 ?_ ?_⟩ <;> first | omega | (simp only; omega) | (simp [Fr.sub, Fr.get, bv]; (try omega); done))
    | (have e := stdK_z (D := D) (B := B) (k := k) (by assumption)
       refine ⟨(k + 1, M0), ⟨by omega, e.trans f1⟩, ?_, VS.sub2 ?_ ?_⟩ <;> first | omega | (simp only; omega) | (simp [Fr.sub, Fr.get, bv]; (try omega); done))
    | (have e := stdK_e (B := B) (k := k) (by assumption)
       by_cases hz : j = 64; rotate_left 1; (exfalso; omega)
       subst hz
       refine ⟨(k + 1, M1), ⟨by omega, e.trans f2⟩, ?_, VS.sub2 ?_ ?_⟩ <;> first | omega | (simp only; omega) | (simp [Fr.sub, Fr.get, bv]; (try omega); done))
    | (have e := aK2_n (D := D) (B := B) (k := k) (s1 := j) (by assumption)
       refine ⟨(j + 1, M1), ⟨by omega, e.trans f2⟩, ?_, VS.sub2 ?_ ?_⟩ <;> first | omega | (simp only; omega) | (simp [Fr.sub, Fr.get, bv]; (try omega); done))
    | (have e := aK2_z (D := D) (B := B) (k := k) (s1 := j) (by assumption) (by assumption)
       refine ⟨(j + 1, M1), ⟨by omega, e.trans f2⟩, ?_, VS.sub2 ?_ ?_⟩ <;> first | omega | (simp only; omega) | (simp [Fr.sub, Fr.get, bv]; (try omega); done))
    | (have e := aK2_e (D := D) (B := B) (k := k) (s1 := j) (by assumption)
       by_cases hz : i = 64; rotate_left 1; (exfalso; omega)
       subst hz
       refine ⟨(j + 1, M2), ⟨by omega, e.trans f3⟩, ?_, VS.sub2 ?_ ?_⟩ <;> first | omega | (simp only; omega) | (simp [Fr.sub, Fr.get, bv]; (try omega); done))
    | (have e := aK3_n (D := D) (B := B) (k := k) (s1 := j) (s2 := i) (by assumption)
       refine ⟨(i + 1, M2), ⟨by omega, e.trans f3⟩, ?_, VS.sub2 ?_ ?_⟩ <;> first | omega | (simp only; omega) | (simp [Fr.sub, Fr.get, bv]; (try omega); done))
    | (have e0 := aK3_p (D := D) (B := B) (k := k) (s1 := j) (s2 := i) (by assumption) (by assumption)
       by_cases hz : q = 4; rotate_left 1; (exfalso; omega)
       subst hz
       refine ⟨(i + 1, ⟨qrT D B j i 4, j, i, r⟩), ⟨by omega, e0.trans f4⟩, ?_, VS.sub2 ?_ ?_⟩ <;> first | omega | (simp only; omega) | (simp [Fr.sub, Fr.get, bv]; (try omega); done))
    | (have e0 := aK3_s (D := D) (B := B) (k := k) (s1 := j) (s2 := i) (by assumption) (by assumption)
       have e := (e0.trans ((congrArg _ (keepM_n (by assumption))).trans (List.append_nil _))).trans f3
       refine ⟨(i + 1, nmM D B j i), ⟨by omega, e⟩, ?_, VS.sub2 ?_ ?_⟩ <;> first | omega | (simp only; omega) | (simp [Fr.sub, Fr.get, bv]; (try omega); done))
    | (have e := ((aK4_S (D := D) (B := B) (k := k) (s1 := j) (s2 := i) (q := q)).trans ((congrArg _ (keepM_n (by assumption))).trans (List.append_nil _))).trans f4
       have e2 := qrM_e D B j i q
       refine ⟨(q + 1, (q : Int) + 2), ⟨by omega, e⟩, ?_, VS.sub2 ?_ ?_⟩ <;> first | omega | (simp only; omega) | (simp [Fr.sub, Fr.get, bv, e2]; (try omega); done))
    | (have e := found_n (D := D) (B := B) (k := k) (s1 := j) (s2 := i) (by omega) (by assumption) (by omega) (by assumption) (by omega) (by assumption) (by assumption) (by assumption) f3
       rw [← vsL_one (nmM D B j i)]
       refine ⟨([nmM D B j i], 132), e, VS.mvx 2 4 (by decide) (by simp) (by simp) (by simp) (by simp) ?_ (by simp [eqX, slB]) ?_ ?_⟩
       · simp
       · exact ⟨⟨by simp [rnO, psL_map, mvS], psL_wf (by simp) (Pl.nilS.wf _)⟩, plO _ (boardL_pl B), plO _ (vsL_pl _), trivial⟩
       · simp [mvF, Fr.get, slH, mvS, wf_int, wf_bool, wf_sl, wf_pt, wf_nils, wf_str]; done)
    | (have e := found_q (D := D) (B := B) (k := k) (s1 := j) (s2 := i) (q := q) (by omega) (by assumption) (by omega) (by assumption) (by omega) (by assumption) (by assumption) (by omega) (by assumption) f4
       rw [← vsL_one (qrM D B j i q)]
       refine ⟨([qrM D B j i q], 132), e, VS.mvx 2 4 (by decide) (by simp) (by simp) (by simp) (by simp) ?_ (by simp [eqX, slB]) ?_ ?_⟩
       · simp
       · exact ⟨⟨by simp [rnO, psL_map, mvS], psL_wf (by simp) (Pl.nilS.wf _)⟩, plO _ (boardL_pl B), plO _ (vsL_pl _), trivial⟩
       · simp [mvF, Fr.get, slH, mvS, wf_int, wf_bool, wf_sl, wf_pt, wf_nils, wf_str]; done)
    | (have e : stdL D B = [] := (stdL_e D B).symm.trans f1
       refine ⟨([], 60), by rw [e]; rfl, VS.mvx 2 4 (by decide) (by simp) (by simp) (by simp) (by simp) ?_ (by simp [eqX, slB]) ?_ ?_⟩
       · simp
       · exact ⟨⟨by simp [rnO, psL_map, mvS], psL_wf (by simp) (Pl.nilS.wf _)⟩, plO _ (boardL_pl B), plO _ (vsL_pl _), trivial⟩
       · simp [mvF, Fr.get, slH, mvS, wf_int, wf_bool, wf_sl, wf_pt, wf_nils, wf_str]; done)
end Go.Tb
end
