/-
  A part of the proof (my own): of the texts that the claim's last text rests on: parts K8.
-/
import Derived.Test.YtigjokkakcmmdaaGreatDoorT20
set_option linter.unusedSimpArgs false
set_option linter.unusedVariables false
section
namespace Go.Tb
open Go Go.Proofs
variable {z : Nat × Nat}
set_option maxRecDepth 20000
theorem zrep_vs {n : Nat} : zrep n (mvL ⟨0, 0, 0, 0⟩) = vsL (List.replicate n zMv) := by
  show (List.replicate n (mvL zMv)).flatten = _
  simp [vsL, List.flatMap_replicate]
theorem cpy_vs {X : Cx} {L : List AO} {i j c c' N e : Nat} {b : Nat} {l : List Mv} {T T' : TypeId} {t tx : TypeId} {K : Value → List AO → Prop} (hsl : tSl X.P t = some (e, 11, b)) (hs : isSl X.P tx = true) (hi : L[i]? = some (.cells (vsL (List.replicate l.length zMv)) T)) (hj : L[j]? = some (.cells (vsL (padV N l)) T'))
    (hk : K (.int .i64 l.length) (L.set i (.cells (vsL l) T))) : cpy2 X L [.slice (some ⟨100 + i, 0, none⟩) l.length c, .slice (some ⟨100 + j, 0, none⟩) l.length c'] [t, tx] K := by
  have hsrc : srcM X.P (X.pad ++ L) 11 tx (.slice (some ⟨100 + j, 0, none⟩) l.length c') = some (l.length, vsL l) := by
    refine src_tl (T := T') (tl := vsL (List.replicate (N - l.length) zMv)) ?_ hs (vsL_len l)
    rw [hj, padV, vsL_app]
  have hp : putM (X.pad ++ L) (some ⟨100 + i, 0, none⟩) 0 (vsL l) = some (X.pad ++ L.set i (.cells (vsL l) T)) := by
    have := putM_own (X := X) (c := []) (tl := vsL (List.replicate l.length zMv)) (news := vsL l) (n := 0) hi rfl (by rw [vsL_len, vsL_len, List.length_replicate]; exact Nat.le_refl _)
    rw [this, List.nil_append, List.drop_of_length_le (by rw [vsL_len, vsL_len, List.length_replicate]; exact Nat.le_refl _), List.append_nil]
  exact ⟨e, 11, b, l.length, vsL l, _, hsl, hsrc, vsL_one' l, Nat.le_refl _, hp, _, rfl, hk⟩
theorem ms_vs {n : Nat} (h : n ≤ 1000) : msF (some (60, 11, 96)) (some (mvL ⟨0, 0, 0, 0⟩)) (n : Int) (n : Int) = some (60, n, n, vsL (List.replicate n zMv)) := by
  have := msF_some (e := 60) (s := 11) (b := 96) (l := (n : Int)) (c := (n : Int)) (zc := mvL ⟨0, 0, 0, 0⟩) ⟨by omega, by omega, by omega, by omega, rfl, by decide⟩
  rw [this, Int.toNat_natCast, zrep_vs]
theorem stdL_e (D : Pd) (B : Brd) : stdK D B 12 = stdL D B := rfl
theorem allow_y {D : Pd} {B : Brd} (h : D.turn = 2) : allowB D B = ~~~B.b := if_pos h
theorem allow_n {D : Pd} {B : Brd} (h : ¬ D.turn = 2) : allowB D B = ~~~B.w := if_neg h
theorem toB_of (D : Pd) (B : Brd) (p : Int) (s1 : Nat) : pmB D B (pTyp p) s1 &&& allowB D B = toB D B p s1 := rfl
theorem qrT_0 (D : Pd) (B : Brd) (s1 s2 : Nat) : qrT D B s1 s2 0 = 0 := rfl
theorem qrM_e (D : Pd) (B : Brd) (s1 s2 q : Nat) : qrM D B s1 s2 q = ⟨qrT D B s1 s2 (q + 1), s1, s2, (q : Int) + 2⟩ := rfl
theorem nTags_ok (D : Pd) (B : Brd) (s1 s2 : Nat) (h1 : s1 < 64) (h2 : s2 < 64) (ht : D.turn = 1 ∨ D.turn = 2) (hw : -1 ≤ B.wks ∧ B.wks ≤ 63) (hb : -1 ≤ B.bks ∧ B.bks ≤ 63) :
    FnM (Tz z) 88 [.pointer (some ⟨100, 0, none⟩), .pointer (some ⟨101, 0, none⟩)] [.cells (mvL ⟨0, s1, s2, 0⟩) 60, .cells (psL 102 nilS D) 82, .cells (boardL B) 110] (fun _ : Unit => True) (fun _ => .tuple #[]) (fun _ => [.cells (mvL (nmM D B s1 s2)) 60, .cells (psL 102 nilS D) 82, .cells (boardL B) 110]) :=
  addTags_ok ⟨0, s1, s2, 0⟩ D B ⟨by simp only; omega, by simp only; omega⟩ ⟨by simp only; omega, by simp only; omega⟩ (fun h => absurd rfl h) ht hw hb
theorem qTags_ok (D : Pd) (B : Brd) (s1 s2 q : Nat) (h1 : s1 < 64) (h2 : s2 < 64) (hq : q < 4) (hp : 1 ≤ pieceAt B (s1 : Int)) (ht : D.turn = 1 ∨ D.turn = 2) (hw : -1 ≤ B.wks ∧ B.wks ≤ 63) (hb : -1 ≤ B.bks ∧ B.bks ≤ 63) :
    FnM (Tz z) 88 [.pointer (some ⟨100, 0, none⟩), .pointer (some ⟨101, 0, none⟩)] [.cells (mvL ⟨qrT D B s1 s2 q, s1, s2, (q : Int) + 2⟩) 60, .cells (psL 102 nilS D) 82, .cells (boardL B) 110] (fun _ : Unit => True) (fun _ => .tuple #[]) (fun _ => [.cells (mvL (qrM D B s1 s2 q)) 60, .cells (psL 102 nilS D) 82, .cells (boardL B) 110]) :=
  addTags_ok ⟨qrT D B s1 s2 q, s1, s2, (q : Int) + 2⟩ D B ⟨by simp only; omega, by simp only; omega⟩ ⟨by simp only; omega, by simp only; omega⟩ (fun _ => ⟨⟨by simp only; omega, by simp only; omega⟩, hp⟩) ht hw hb
theorem aK3_lt {D : Pd} {B : Brd} {k s1 s2 : Nat} (hl : (stdL D B).length ≤ 218) (h : k < 12) (ht : D.turn = pCol ((k : Int) + 1)) (h1 : s1 < 64) (hg : ¬ getP B ((k : Int) + 1) &&& sqB s1 = 0#64) (h2 : s2 < 64) (ho : ¬ toB D B ((k : Int) + 1) s1 &&& sqB s2 = 0#64) (hp : promS ((k : Int) + 1) s2 = false) (hk : ¬ 0 < band .u16 32 (nmM D B s1 s2).tags) : (aK3 D B k s1 s2).length < 218 := by
  have := aK3_le h ht h1 hg (s2 := s2 + 1) h2
  rw [aK3_s ho hp, keepM_y hk, List.length_append, List.length_singleton] at this
  omega
theorem aK4_lt {D : Pd} {B : Brd} {k s1 s2 q : Nat} (hl : (stdL D B).length ≤ 218) (h : k < 12) (ht : D.turn = pCol ((k : Int) + 1)) (h1 : s1 < 64) (hg : ¬ getP B ((k : Int) + 1) &&& sqB s1 = 0#64) (h2 : s2 < 64) (ho : ¬ toB D B ((k : Int) + 1) s1 &&& sqB s2 = 0#64) (hp : promS ((k : Int) + 1) s2 = true) (hq : q < 4) (hk : ¬ 0 < band .u16 32 (qrM D B s1 s2 q).tags) : (aK4 D B k s1 s2 q).length < 218 := by
  have := aK4_le (q := q + 1) h ht h1 hg h2 ho hp hq
  rw [aK4_S, keepM_y hk, List.length_append, List.length_singleton] at this
  omega
attribute [local irreducible] stdL stdK aK2 aK3 aK4 toB allowB promS nmM qrM qrT keepM getP pCol pTyp tg4 sqB pmB in
set_option maxHeartbeats 8000000 in
theorem std_ok (D : Pd) (B : Brd) (hl : (stdL D B).length ≤ 218) (he : -1 ≤ D.ep ∧ D.ep ≤ 63) (ht : D.turn = 1 ∨ D.turn = 2) (hw : -1 ≤ B.wks ∧ B.wks ≤ 63) (hb : -1 ≤ B.bks ∧ B.bks ≤ 63) :
    FnM (Tz z) 68 [.pointer (some ⟨100, 0, none⟩), .bool false] [.cells (psL 101 nilS D) 82, .cells (boardL B) 110] (fun _ : Unit => True) (fun _ => .slice (some ⟨102, 0, none⟩) (stdL D B).length (stdL D B).length) (fun _ => [.cells (psL 101 nilS D) 82, .cells (boardL B) 110, .cells (vsL (stdL D B)) 60]) := by
  refine ⟨?_, pb_wl D B, fun _ _ o ho => ?_, CallM.shiftX (start [0, 1, 4, 5, 6, 7, 8, 10, 11, 12, 13, 14, 16, 17, 18, 19, 30, 39, 40, 41, 42, 49, 57, 58, 59, 66, 76, 77, 78, 85, 110, 111, 112, 113, 114, 122, 128, 138, 144] Tryz.func68 rfl (by decide) rfl (by kernel_rfl) (by simp [Tryz.f68]) ?_)⟩
  · intro u hu
    simp only [List.mem_cons, List.not_mem_nil, or_false] at hu
    rcases hu with rfl | rfl
    · exact WF_ptrN (by simp)
    · exact wf_bool
  · simp at ho; subst ho; rfl
  simp only [Tryz.f68]
  have mk2 : True := trivial
  repeat' (first | with_reducible refine seq_i (a := Code.seq (Code.region 5 _ _) _) [(0, .pointer (some ⟨100, 0, none⟩)), (1, .bool false), (5, .pointer (some ⟨102, 0, none⟩)), (7, .pointer (some ⟨103, 0, none⟩)), (8, bv (allowB D B)), (6, .int .i64 0)] [.cells (psL 101 nilS D) 82, .cells (boardL B) 110, .cells (vsL (padV 218 [])) 126, .cells (mvL ⟨0, 0, 0, 0⟩) 60] ?_ (fun K hJ => ?_) | ((with_reducible refine loop (c := Code.seq (Code.region 8 _ _) _) (V := [0, 1, 4, 5, 6, 7, 8, 10, 11, 12, 13, 14, 16, 17, 18, 19, 30, 39, 40, 41, 42, 49, 57, 58, 59, 66, 76, 77, 78, 85, 110, 111, 112, 113, 114, 122, 128, 138, 144]) (fun y : Nat × Mv => ([(0, .pointer (some ⟨100, 0, none⟩)), (1, .bool false), (5, .pointer (some ⟨102, 0, none⟩)), (7, .pointer (some ⟨103, 0, none⟩)), (8, bv (allowB D B)), (6, .int .i64 ((stdK D B y.1).length : Nat)), (39, .slice (some ⟨12, z.1, none⟩) 12 12), (40, .int .i64 12), (41, .int .i64 y.1)], [.cells (psL 101 nilS D) 82, .cells (boardL B) 110, .cells (vsL (padV 218 (stdK D B y.1))) 126, .cells (mvL y.2) 60])) (fun y => y.1 ≤ 12) (fun y => 12 - y.1) (0, ⟨0, 0, 0, 0⟩) (by kernel_rfl) ?_ ?_ (fun y hk => ?_)); rotate_left 2; obtain ⟨k, M0⟩ := y; simp only at hk) | (with_reducible refine hJ _ _ ?_; clear hJ) | ((with_reducible refine loop (c := Code.seq (Code.region 14 _ _) _) (V := [0, 1, 4, 5, 6, 7, 8, 10, 11, 12, 13, 14, 16, 17, 18, 19, 30, 39, 40, 41, 42, 49, 57, 58, 59, 66, 76, 77, 78, 85, 110, 111, 112, 113, 114, 122, 128, 138, 144]) (fun y : Nat × Mv => ([(0, .pointer (some ⟨100, 0, none⟩)), (1, .bool false), (5, .pointer (some ⟨102, 0, none⟩)), (7, .pointer (some ⟨103, 0, none⟩)), (8, bv (allowB D B)), (39, .slice (some ⟨12, z.1, none⟩) 12 12), (40, .int .i64 12), (41, .int .i64 k), (10, .int .i8 ((k : Int) + 1)), (11, bv (getP B ((k : Int) + 1))), (6, .int .i64 ((aK2 D B k y.1).length : Nat)), (58, .int .i64 y.1)], [.cells (psL 101 nilS D) 82, .cells (boardL B) 110, .cells (vsL (padV 218 (aK2 D B k y.1))) 126, .cells (mvL y.2) 60])) (fun y => y.1 ≤ 64) (fun y => 64 - y.1) (0, M0) (by kernel_rfl) (by omega) ?_ (fun y hj => ?_)); rotate_left 1; obtain ⟨j, M1⟩ := y; simp only at hj) | ((with_reducible refine loop (c := Code.seq (Code.region 20 _ _) _) (V := [0, 1, 4, 5, 6, 7, 8, 10, 11, 12, 13, 14, 16, 17, 18, 19, 30, 39, 40, 41, 42, 49, 57, 58, 59, 66, 76, 77, 78, 85, 110, 111, 112, 113, 114, 122, 128, 138, 144]) (fun y : Nat × Mv => ([(0, .pointer (some ⟨100, 0, none⟩)), (1, .bool false), (5, .pointer (some ⟨102, 0, none⟩)), (7, .pointer (some ⟨103, 0, none⟩)), (8, bv (allowB D B)), (39, .slice (some ⟨12, z.1, none⟩) 12 12), (40, .int .i64 12), (41, .int .i64 k), (10, .int .i8 ((k : Int) + 1)), (11, bv (getP B ((k : Int) + 1))), (58, .int .i64 j), (12, .int .i64 j), (13, bv (toB D B ((k : Int) + 1) j)), (6, .int .i64 ((aK3 D B k j y.1).length : Nat)), (77, .int .i64 y.1)], [.cells (psL 101 nilS D) 82, .cells (boardL B) 110, .cells (vsL (padV 218 (aK3 D B k j y.1))) 126, .cells (mvL y.2) 60])) (fun y => y.1 ≤ 64) (fun y => 64 - y.1) (0, M1) (by kernel_rfl) (by omega) ?_ (fun y hi => (fun (mk : True) => ?_) trivial)); rotate_left 1; obtain ⟨i, M2⟩ := y; simp only at hi) | ((with_reducible refine loop (c := Code.seq (Code.region 28 _ _) _) (V := [0, 1, 4, 5, 6, 7, 8, 10, 11, 12, 13, 14, 16, 17, 18, 19, 30, 39, 40, 41, 42, 49, 57, 58, 59, 66, 76, 77, 78, 85, 110, 111, 112, 113, 114, 122, 128, 138, 144]) (fun y : Nat × Int => ([(0, .pointer (some ⟨100, 0, none⟩)), (1, .bool false), (5, .pointer (some ⟨102, 0, none⟩)), (7, .pointer (some ⟨103, 0, none⟩)), (8, bv (allowB D B)), (39, .slice (some ⟨12, z.1, none⟩) 12 12), (40, .int .i64 12), (41, .int .i64 k), (10, .int .i8 ((k : Int) + 1)), (11, bv (getP B ((k : Int) + 1))), (58, .int .i64 j), (12, .int .i64 j), (13, bv (toB D B ((k : Int) + 1) j)), (77, .int .i64 i), (6, .int .i64 ((aK4 D B k j i y.1).length : Nat)), (14, .int .i64 i), (111, .slice (some ⟨13, z.2, none⟩) 4 4), (112, .int .i64 4), (113, .int .i64 y.1)], [.cells (psL 101 nilS D) 82, .cells (boardL B) 110, .cells (vsL (padV 218 (aK4 D B k j i y.1))) 126, .cells (mvL ⟨qrT D B j i y.1, j, i, y.2⟩) 60])) (fun y => y.1 ≤ 4) (fun y => 4 - y.1) (0, M2.promo) (by kernel_rfl) (by omega) ?_ (fun y hq => (fun (mk4 : True) => ?_) trivial)); rotate_left 1; obtain ⟨q, r⟩ := y; simp only at hq) | with_reducible refine seq_i (a := Code.region 26 _ _) [(0, .pointer (some ⟨100, 0, none⟩)), (1, .bool false), (5, .pointer (some ⟨102, 0, none⟩)), (7, .pointer (some ⟨103, 0, none⟩)), (8, bv (allowB D B)), (39, .slice (some ⟨12, z.1, none⟩) 12 12), (40, .int .i64 12), (41, .int .i64 k), (10, .int .i8 ((k : Int) + 1)), (11, bv (getP B ((k : Int) + 1))), (58, .int .i64 j), (12, .int .i64 j), (13, bv (toB D B ((k : Int) + 1) j)), (77, .int .i64 i), (6, .int .i64 ((aK3 D B k j i).length : Nat)), (14, .int .i64 i), (110, .bool (promS ((k : Int) + 1) i))] [.cells (psL 101 nilS D) 82, .cells (boardL B) 110, .cells (vsL (padV 218 (aK3 D B k j i))) 126, .cells (mvL ⟨0, j, i, M2.promo⟩) 60] ?_ (fun K hJ => ?_) | (have hlt := aK3_lt hl (k := k) (s1 := j) (s2 := i) (by omega) (by assumption) (by omega) (by assumption) (by omega) (by assumption) (by assumption) (by assumption); clear mk) | (have hlt := aK4_lt hl (k := k) (s1 := j) (s2 := i) (q := q) (by omega) (by assumption) (by omega) (by assumption) (by omega) (by assumption) (by assumption) (by omega) (by assumption); clear mk4) | (have hz : k = 12 := (by omega); subst hz; have e12 := stdL_e D B; simp only [e12]; clear mk2) | ((with_reducible refine cpy_k ?_); refine cpy_vs (X := Tz z) (i := 4) (j := 2) (N := 218) (e := 60) (b := 96) (l := stdL D B) (by kernel_rfl) (by kernel_rfl) rfl rfl ?_) | ((with_reducible refine call_r2 101 (turn_ok D B) ?_ ?_ ?_ ?_ ?_ ?_); (· first | omega | decide); (· first | rfl | assumption | simp; done); (· first | omega | decide); (· first | rfl | assumption | simp; done); (· first | omega | decide)) | ((with_reducible refine qG_r2 101 (turn_ok D B) ?_ ?_ ?_ ?_ ?_ ?_); (· first | omega | decide); (· first | rfl | assumption | simp; done); (· first | omega | decide); (· first | rfl | assumption | simp; done); (· first | omega | decide)) | ((with_reducible refine zG_r2 101 (turn_ok D B) ?_ ?_ ?_ ?_ ?_ ?_); (· first | omega | decide); (· first | rfl | assumption | simp; done); (· first | omega | decide); (· first | rfl | assumption | simp; done); (· first | omega | decide)) | (with_reducible first | refine call_p (color_ok) ?_ | refine qG_call (color_ok) ?_ | refine zG_call (color_ok) ?_ | refine yG_call (color_ok) ?_ | refine piG_call (color_ok) ?_ | refine call_p (type_ok) ?_ | refine qG_call (type_ok) ?_ | refine zG_call (type_ok) ?_ | refine yG_call (type_ok) ?_ | refine piG_call (type_ok) ?_) | ((with_reducible refine call_ri (f := 71) ?_ ?_ ?_ ?_ ?_ ?_ ?_); rotate_left 3; (· first | omega | decide); (· first | rfl | simp; done); (· refine bbFor_ok _ ?_ <;> omega)) | ((with_reducible refine qG_ri (f := 71) ?_ ?_ ?_ ?_ ?_ ?_ ?_); rotate_left 3; (· first | omega | decide); (· first | rfl | simp; done); (· refine bbFor_ok _ ?_ <;> omega)) | ((with_reducible refine zG_ri (f := 71) ?_ ?_ ?_ ?_ ?_ ?_ ?_); rotate_left 3; (· first | omega | decide); (· first | rfl | simp; done); (· refine bbFor_ok _ ?_ <;> omega)) | (with_reducible first | refine call_p (bbSq_ok (by omega)) ?_ | refine qG_call (bbSq_ok (by omega)) ?_ | refine zG_call (bbSq_ok (by omega)) ?_ | refine yG_call (bbSq_ok (by omega)) ?_ | refine piG_call (bbSq_ok (by omega)) ?_) | ((with_reducible refine call_fr (nTags_ok D B j i (by omega) (by omega) ht hw hb) [3, 0, 1] ?_ ?_ ?_ ?_); (· kernel_rfl); (· exact ⟨by rfl, by kernel_rfl, by kernel_rfl, trivial⟩); (· kernel_rfl); intro xx hx; simp -implicitDefEqProofs only [fixL_eq, setAll_cons, setAll_nil, setAll_nil2, List.map_cons, List.map_nil, rn_cells, rn_ro, rn_any, rn_obj, boardL_map, mvL_map, psL_map, map_ints, List.set_cons_zero, List.set_cons_succ, List.length_cons, List.length_nil, List.drop_succ_cons, List.drop_zero, List.drop_nil, List.append_nil, List.nil_append, List.cons_append, rl_tuple, rl_int, rl_bool, rl_string, rl_ptr, rl_ptr0, rl_slice, rl_slice0, rl_agg, List.map_toArray, Array.map_empty, List.length_append, Nat.zero_add, Nat.reduceAdd, sig, Nat.reduceLT, Nat.reduceSub, ↓reduceIte, List.getElem?_cons_zero, List.getElem?_cons_succ, List.getElem?_nil, Nat.reduceAdd, Nat.add_zero, Nat.sub_self]) | ((with_reducible refine call_fr (qTags_ok D B j i q (by omega) (by omega) (by omega) (pieceAt_pos (k := k) (by omega) (by omega) (by assumption)) ht hw hb) [3, 0, 1] ?_ ?_ ?_ ?_); (· kernel_rfl); (· exact ⟨by rfl, by kernel_rfl, by kernel_rfl, trivial⟩); (· kernel_rfl); intro xx hx; simp -implicitDefEqProofs only [fixL_eq, setAll_cons, setAll_nil, setAll_nil2, List.map_cons, List.map_nil, rn_cells, rn_ro, rn_any, rn_obj, boardL_map, mvL_map, psL_map, map_ints, List.set_cons_zero, List.set_cons_succ, List.length_cons, List.length_nil, List.drop_succ_cons, List.drop_zero, List.drop_nil, List.append_nil, List.nil_append, List.cons_append, rl_tuple, rl_int, rl_bool, rl_string, rl_ptr, rl_ptr0, rl_slice, rl_slice0, rl_agg, List.map_toArray, Array.map_empty, List.length_append, Nat.zero_add, Nat.reduceAdd, sig, Nat.reduceLT, Nat.reduceSub, ↓reduceIte, List.getElem?_cons_zero, List.getElem?_cons_succ, List.getElem?_nil, Nat.reduceAdd, Nat.add_zero, Nat.sub_self]) | ((with_reducible refine call_ri (f := 40) ?_ ?_ ?_ ?_ ?_ ?_ ?_); rotate_left 3; (· first | omega | decide); (· first | rfl | simp; done); (· refine hasTag_ok _ <;> omega)) | ((with_reducible refine qG_ri (f := 40) ?_ ?_ ?_ ?_ ?_ ?_ ?_); rotate_left 3; (· first | omega | decide); (· first | rfl | simp; done); (· refine hasTag_ok _ <;> omega)) | ((with_reducible refine zG_ri (f := 40) ?_ ?_ ?_ ?_ ?_ ?_ ?_); rotate_left 3; (· first | omega | decide); (· first | rfl | simp; done); (· refine hasTag_ok _ <;> omega)) | ((with_reducible refine call_r2 101 (possible_ok D B (by omega) he ht) ?_ ?_ ?_ ?_ ?_ ?_); (· first | omega | decide); (· first | rfl | assumption | simp; done); (· first | omega | decide); (· first | rfl | assumption | simp; done); (· first | omega | decide)) | ((with_reducible refine qG_r2 101 (possible_ok D B (by omega) he ht) ?_ ?_ ?_ ?_ ?_ ?_); (· first | omega | decide); (· first | rfl | assumption | simp; done); (· first | omega | decide); (· first | rfl | assumption | simp; done); (· first | omega | decide)) | ((with_reducible refine zG_r2 101 (possible_ok D B (by omega) he ht) ?_ ?_ ?_ ?_ ?_ ?_); (· first | omega | decide); (· first | rfl | assumption | simp; done); (· first | omega | decide); (· first | rfl | assumption | simp; done); (· first | omega | decide)) | (with_reducible first | refine draw (by kernel_rfl) (by kernel_rfl) ?_ | apply pz_e | apply pz_eg | apply py_e | refine call_p (sqRank_ok (by omega)) ?_ | refine qG_call (sqRank_ok (by omega)) ?_ | refine zG_call (sqRank_ok (by omega)) ?_ | refine yG_call (sqRank_ok (by omega)) ?_ | refine piG_call (sqRank_ok (by omega)) ?_ | refine yC_decT (by assumption) ?_ | refine yC_decF (by assumption) ?_ | refine yC_bT (by assumption) ?_ | refine yC_bF (by assumption) ?_ | refine seq_k fun K hK => ?_) | (with_reducible refine hK _ _ ?_; clear hK) | ((with_reducible first | refine gd_dec ?_ ?_ | refine gd_ndec ?_ ?_ | refine qC_dec ?_ ?_ | refine qC_ndec ?_ ?_ | refine piC_dec ?_ ?_ | refine piC_ndec ?_ ?_ | refine zC_dec ?_ ?_ | refine zC_ndec ?_ ?_ | refine zD_dec ?_ ?_ | refine yC_dec ?_ ?_ | refine yC_ndec ?_ ?_ | refine if_dec ?_ ?_ | refine if_ndec ?_ ?_) <;> intro hh) | simp -implicitDefEqProofs (disch := first | omega | assumption) only [go_sem, ↓reduceIte, Nat.reduceEqDiff, Int.reduceEq, Nat.reduceAdd, Nat.reduceSub, Nat.reduceMul, Nat.mul_one, Nat.one_mul, List.length_nil, List.length_cons, List.nil_append, List.cons_append, List.length_append, List.set_cons_zero, List.set_cons_succ, Nat.zero_add, Nat.sub_zero, Option.isNone_none, Option.isNone_some, Int.toNat_natCast, Nat.add_sub_cancel_left, Bool.not_true, Bool.not_false, BitVec.reduceOfInt, Int.reduceToNat, sl126, Option.map_none, Option.map_some, rep_vs, rep_vs2, mv_lit, wr_mv0, wr_pad, wr_pad0, ms_vs, toB_of, all_get, pro_get, i8s_len] | ((with_reducible first | refine gd_bool ?_ ?_ | refine if_bool ?_ ?_ | refine qC_bool ?_ ?_ | refine piC_bool ?_ ?_ | refine zC_bool ?_ ?_ | refine zD_bool ?_ ?_ | refine yC_bool ?_ ?_) <;> intro hh) | clear hK)
  all_goals first
    | omega
    | (refine VS.sub2 ?_ ?_ <;> (simp [Fr.sub, Fr.get, stdK_0]; done))
    | (have e := allow_y (B := B) (D := D) (by assumption)
       refine VS.sub2 ?_ ?_ <;> (simp [Fr.sub, Fr.get, bv, e]; (try omega); done))
    | (have e := allow_n (B := B) (D := D) (by assumption)
       refine VS.sub2 ?_ ?_ <;> (simp [Fr.sub, Fr.get, bv, e]; (try omega); done))
    | (have e := aK2_0 (D := D) (B := B) (k := k)
       refine VS.sub2 ?_ ?_ <;> (simp [Fr.sub, Fr.get, bv, e]; (try omega); done))
    | (have e := aK3_0 (D := D) (B := B) (k := k) (s1 := j)
       refine VS.sub2 ?_ ?_ <;> (simp [Fr.sub, Fr.get, bv, e]; (try omega); done))
    | (have e := aK4_0 (D := D) (B := B) (k := k) (s1 := j) (s2 := i)
       have e2 := qrT_0 D B j i
       refine VS.sub2 ?_ ?_ <;> (simp [Fr.sub, Fr.get, bv, e, e2]; done))
    | (by_cases hp : (((k : Int) + 1 = 6 ∧ (i : Int) / 8 = 7) ∨ ((k : Int) + 1 = 12 ∧ (i : Int) / 8 = 0))
       · have e := promS_y hp
         refine VS.sub2 ?_ ?_ <;> first | (exfalso; omega) | (simp [Fr.sub, Fr.get, bv, e]; (try omega); done)
       · have e := promS_n hp
         refine VS.sub2 ?_ ?_ <;> first | (exfalso; omega) | (simp [Fr.sub, Fr.get, bv, e]; (try omega); done))
    | (have e := stdK_n (B := B) (k := k) (by assumption)
       refine ⟨(k + 1, M0), ?_, ?_, VS.sub2 ?_ ?_⟩ <;> first | omega | (simp only; omega) | (simp [Fr.sub, Fr.get, bv, e]; (try omega); done))
    | (have e := stdK_z (D := D) (B := B) (k := k) (by assumption)
       refine ⟨(k + 1, M0), ?_, ?_, VS.sub2 ?_ ?_⟩ <;> first | omega | (simp only; omega) | (simp [Fr.sub, Fr.get, bv, e]; (try omega); done))
    | (have e := stdK_e (B := B) (k := k) (by assumption)
       by_cases hz : j = 64; rotate_left 1; (exfalso; omega)
       subst hz
       refine ⟨(k + 1, M1), ?_, ?_, VS.sub2 ?_ ?_⟩ <;> first | omega | (simp only; omega) | (simp [Fr.sub, Fr.get, bv, e]; (try omega); done))
    | (have e := aK2_n (D := D) (B := B) (k := k) (s1 := j) (by assumption)
       refine ⟨(j + 1, M1), ?_, ?_, VS.sub2 ?_ ?_⟩ <;> first | omega | (simp only; omega) | (simp [Fr.sub, Fr.get, bv, e]; (try omega); done))
    | (have e := aK2_z (D := D) (B := B) (k := k) (s1 := j) (by assumption) (by assumption)
       refine ⟨(j + 1, M1), ?_, ?_, VS.sub2 ?_ ?_⟩ <;> first | omega | (simp only; omega) | (simp [Fr.sub, Fr.get, bv, e]; (try omega); done))
    | (have e := aK2_e (D := D) (B := B) (k := k) (s1 := j) (by assumption)
       by_cases hz : i = 64; rotate_left 1; (exfalso; omega)
       subst hz
       refine ⟨(j + 1, M2), ?_, ?_, VS.sub2 ?_ ?_⟩ <;> first | omega | (simp only; omega) | (simp [Fr.sub, Fr.get, bv, e]; (try omega); done))
    | (have e := aK3_n (D := D) (B := B) (k := k) (s1 := j) (s2 := i) (by assumption)
       refine ⟨(i + 1, M2), ?_, ?_, VS.sub2 ?_ ?_⟩ <;> first | omega | (simp only; omega) | (simp [Fr.sub, Fr.get, bv, e]; (try omega); done))
    | (have e0 := aK3_p (D := D) (B := B) (k := k) (s1 := j) (s2 := i) (by assumption) (by assumption)
       by_cases hz : q = 4; rotate_left 1; (exfalso; omega)
       subst hz
       have e := e0
       refine ⟨(i + 1, ⟨qrT D B j i 4, j, i, r⟩), ?_, ?_, VS.sub2 ?_ ?_⟩ <;> first | omega | (simp only; omega) | (simp [Fr.sub, Fr.get, bv, e]; (try omega); done))
    | (have e0 := aK3_s (D := D) (B := B) (k := k) (s1 := j) (s2 := i) (by assumption) (by assumption)
       have e := e0.trans (congrArg _ (keepM_y (by assumption)))
       refine ⟨(i + 1, nmM D B j i), ?_, ?_, VS.sub2 ?_ ?_⟩ <;> first | omega | (simp only; omega) | (simp [Fr.sub, Fr.get, bv, e]; (try omega); done))
    | (have e0 := aK3_s (D := D) (B := B) (k := k) (s1 := j) (s2 := i) (by assumption) (by assumption)
       have e := e0.trans ((congrArg _ (keepM_n (by assumption))).trans (List.append_nil _))
       refine ⟨(i + 1, nmM D B j i), ?_, ?_, VS.sub2 ?_ ?_⟩ <;> first | omega | (simp only; omega) | (simp [Fr.sub, Fr.get, bv, e]; (try omega); done))
    | (have e := (aK4_S (D := D) (B := B) (k := k) (s1 := j) (s2 := i) (q := q)).trans (congrArg _ (keepM_y (by assumption)))
       have e2 := qrM_e D B j i q
       refine ⟨(q + 1, (q : Int) + 2), ?_, ?_, VS.sub2 ?_ ?_⟩ <;> first | omega | (simp only; omega) | (simp only [e]; simp [Fr.sub, Fr.get, bv, e2]; (try omega); done))
    | (have e := (aK4_S (D := D) (B := B) (k := k) (s1 := j) (s2 := i) (q := q)).trans ((congrArg _ (keepM_n (by assumption))).trans (List.append_nil _))
       have e2 := qrM_e D B j i q
       refine ⟨(q + 1, (q : Int) + 2), ?_, ?_, VS.sub2 ?_ ?_⟩ <;> first | omega | (simp only; omega) | (simp only [e]; simp [Fr.sub, Fr.get, bv, e2]; (try omega); done))
    | (refine ⟨(), trivial, VS.mvx 2 4 (by decide) (by simp) (by simp) (by simp) (by simp) ?_ (by simp [eqX, slB]) ?_ ?_⟩
       · simp
       · exact ⟨⟨by simp [rnO, psL_map, mvS], psL_wf (by simp) (Pl.nilS.wf _)⟩, plO _ (boardL_pl B), plO _ (vsL_pl _), trivial⟩
       · simp [mvF, Fr.get, slH, mvS, wf_int, wf_bool, wf_sl, wf_pt, wf_nils, wf_str]; done)
end Go.Tb
end
