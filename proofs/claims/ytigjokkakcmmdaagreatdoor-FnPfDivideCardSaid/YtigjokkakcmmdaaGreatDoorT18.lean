/-
  A part of the proof (my own): of the texts that the claim's last text rests on: parts B9, P4, P5, P6, P7.
-/
import Derived.Test.YtigjokkakcmmdaaGreatDoorT17
set_option linter.unusedSimpArgs false
set_option linter.unusedVariables false
section
namespace Go.Tb
open Go Go.Proofs
variable {z : Nat × Nat}
set_option maxRecDepth 20000
theorem CallM.cutU {X : Cx} {f : FuncId} {vs : List Value} {L L1 : List AO} {r : Value} (hn : L.length ≤ L1.length) (hw : ∀ o ∈ L1, o.wf (100 + L1.length)) (hv : WF (100 + L1.length) r) (h : CallM X f vs L fun v M => v = r ∧ ∃ G, M = L1 ++ G) : CallM X f vs L fun v M => ∃ _x : Unit, True ∧ v = r ∧ M = L1 :=
  (CallM.cut hn hw hv h).mono fun _ _ ⟨a, b⟩ => ⟨(), trivial, a, b⟩
def tg1 (D : Pd) (B : Brd) (M : Mv) : Int := if (!occB B.e M.s2) = true then bor .u16 M.tags 4 else if M.s2 = D.ep ∧ pTyp (pieceAt B M.s1) = 6 then bor .u16 M.tags 8 else M.tags
def tg2 (D : Pd) (B : Brd) (M : Mv) : Int :=
  if (pieceAt B M.s1 = 1 ∧ M.s1 = 4) ∨ (pieceAt B M.s1 = 7 ∧ M.s1 = 60) then
    if M.s2 = 2 ∨ M.s2 = 58 then bor .u16 (tg1 D B M) 2 else if M.s2 = 6 ∨ M.s2 = 62 then bor .u16 (tg1 D B M) 1 else tg1 D B M
  else tg1 D B M
def afterB (D : Pd) (B : Brd) (M : Mv) : Brd := updB B { M with tags := tg2 D B M }
def tg3 (D : Pd) (B : Brd) (M : Mv) : Int := if inChk D (afterB D B M) = true then bor .u16 (tg2 D B M) 32 else tg2 D B M
def otherD (D : Pd) : Pd := { D with turn := cOther D.turn }
def tg4 (D : Pd) (B : Brd) (M : Mv) : Int := if inChk (otherD D) (afterB D B M) = true then bor .u16 (tg3 D B M) 16 else tg3 D B M
theorem calcM_kings {B : Brd} {M : Mv} (h2 : 0 ≤ M.s2 ∧ M.s2 ≤ 63) (hw : -1 ≤ B.wks ∧ B.wks ≤ 63) (hb : -1 ≤ B.bks ∧ B.bks ≤ 63) : (-1 ≤ (calcM B M).wks ∧ (calcM B M).wks ≤ 63) ∧ (-1 ≤ (calcM B M).bks ∧ (calcM B M).bks ≤ 63) := by
  unfold calcM
  split
  · simp only [calcB]; omega
  · split <;> (simp only [calcB]; omega)
theorem putP_kings (B : Brd) (p : Int) (x : BitVec 64) : (putP B p x).wks = B.wks ∧ (putP B p x).bks = B.bks := by
  unfold putP Brd.put; split <;> exact ⟨rfl, rfl⟩
theorem updB_kings0 (B : Brd) (M : Mv) (p : Int) : (updC (updE (updP (updA B M) M p) M p) M p).wks = B.wks ∧ (updC (updE (updP (updA B M) M p) M p) M p).bks = B.bks := by
  have h1 : ∀ X : Brd, (updC X M p).wks = X.wks ∧ (updC X M p).bks = X.bks := fun X => by unfold updC; (repeat' split) <;> exact ⟨rfl, rfl⟩
  have h2 : ∀ X : Brd, (updE X M p).wks = X.wks ∧ (updE X M p).bks = X.bks := fun X => by unfold updE; (repeat' split) <;> exact ⟨rfl, rfl⟩
  have h3 : ∀ X : Brd, (updP X M p).wks = X.wks ∧ (updP X M p).bks = X.bks := fun X => by
    unfold updP; split
    · exact ⟨rfl, rfl⟩
    · simp only [putP_kings]; exact ⟨trivial, trivial⟩
  rw [(h1 _).1, (h1 _).2, (h2 _).1, (h2 _).2, (h3 _).1, (h3 _).2]
  exact ⟨rfl, rfl⟩
theorem updB_kings {B : Brd} {M : Mv} (h2 : 0 ≤ M.s2 ∧ M.s2 ≤ 63) (hw : -1 ≤ B.wks ∧ B.wks ≤ 63) (hb : -1 ≤ B.bks ∧ B.bks ≤ 63) : (-1 ≤ (updB B M).wks ∧ (updB B M).wks ≤ 63) ∧ (-1 ≤ (updB B M).bks ∧ (updB B M).bks ≤ 63) := by
  obtain ⟨e1, e2⟩ := updB_kings0 B M (pieceAt B M.s1)
  exact calcM_kings h2 (by rw [e1]; exact hw) (by rw [e2]; exact hb)
theorem mpb_wl (M : Mv) (D : Pd) (B : Brd) : ∀ o ∈ [AO.cells (mvL M) 60, AO.cells (psL 102 nilS D) 82, AO.cells (boardL B) 110], o.wf (100 + 3) := by
  intro o ho
  simp only [List.mem_cons, List.not_mem_nil, or_false] at ho
  rcases ho with rfl | rfl | rfl
  · exact fun u hu => (mvL_pl M u hu).wf _
  · exact psL_wf (by decide) (Pl.nilS.wf _)
  · exact fun u hu => (boardL_pl B u hu).wf _
set_option maxHeartbeats 8000000 in
theorem addTags_ok (M : Mv) (D : Pd) (B : Brd) (h1 : 0 ≤ M.s1 ∧ M.s1 ≤ 63) (h2 : 0 ≤ M.s2 ∧ M.s2 ≤ 63) (hq : ¬ M.promo = 0 → (1 ≤ M.promo ∧ M.promo ≤ 6) ∧ 1 ≤ pieceAt B M.s1) (ht : D.turn = 1 ∨ D.turn = 2) (hw : -1 ≤ B.wks ∧ B.wks ≤ 63) (hb : -1 ≤ B.bks ∧ B.bks ≤ 63) :
    FnM (Tz z) 88 [.pointer (some ⟨100, 0, none⟩), .pointer (some ⟨101, 0, none⟩)] [.cells (mvL M) 60, .cells (psL 102 nilS D) 82, .cells (boardL B) 110] (fun _ : Unit => True) (fun _ => .tuple #[]) (fun _ => [.cells (mvL { M with tags := tg4 D B M }) 60, .cells (psL 102 nilS D) 82, .cells (boardL B) 110]) := by
  refine ⟨?_, mpb_wl M D B, fun _ _ o ho => by simp at ho, CallM.cutU (by simp) (mpb_wl _ D B) (fun _ _ _ => by simp) (start [0, 1, 4, 5, 23, 39, 61, 65, 66, 71, 85, 97] Tryz.func88 rfl (by decide) rfl (by kernel_rfl) (by simp [Tryz.f88]) ?_)⟩
  · intro u hu
    simp only [List.mem_cons, List.not_mem_nil, or_false] at hu
    rcases hu with rfl | rfl <;> exact WF_ptrN (by simp)
  have hk : (-1 ≤ (afterB D B M).wks ∧ (afterB D B M).wks ≤ 63) ∧ (-1 ≤ (afterB D B M).bks ∧ (afterB D B M).bks ≤ 63) := updB_kings (B := B) (M := { M with tags := tg2 D B M }) h2 hw hb
  have ht' : (otherD D).turn = 1 ∨ (otherD D).turn = 2 := by rcases ht with e | e <;> simp [otherD, cOther, e]
  simp only [Tryz.f88]
  repeat' (first | (with_reducible first | refine seq_i (a := Code.seq (Code.region 1 _ _) _) [(0, .pointer (some ⟨100, 0, none⟩)), (1, .pointer (some ⟨101, 0, none⟩)), (4, .int .i8 (pieceAt B M.s1))] [.cells (mvL { M with tags := tg1 D B M }) 60, .cells (psL 102 nilS D) 82, .cells (boardL B) 110] ?_ (fun K hJ => ?_) | refine seq_i (a := Code.seq (Code.region 5 _ _) _) [(0, .pointer (some ⟨100, 0, none⟩)), (1, .pointer (some ⟨101, 0, none⟩)), (4, .int .i8 (pieceAt B M.s1))] [.cells (mvL { M with tags := tg2 D B M }) 60, .cells (psL 102 nilS D) 82, .cells (boardL B) 110] ?_ (fun K hJ => ?_) | refine seq_i (a := Code.seq (Code.region 15 _ _) _) [(0, .pointer (some ⟨100, 0, none⟩)), (5, .pointer (some ⟨104, 0, none⟩))] [.cells (mvL { M with tags := tg3 D B M }) 60, .cells (psL 102 nilS D) 82, .cells (boardL B) 110, .cells (boardL (afterB D B M)) 110, .cells (psL 103 nilS D) 82] ?_ (fun K hJ => ?_)) | (with_reducible refine hJ _ _ ?_; clear hJ; refine VS.sub2 ?_ ?_) | (with_reducible first | refine draw (by kernel_rfl) (by kernel_rfl) ?_ | apply pz_e | apply pz_eg | apply py_e) | ((with_reducible refine call_ri (f := 48) ?_ ?_ ?_ ?_ ?_ ?_ ?_); rotate_left 3; (· first | omega | decide); (· first | rfl | simp; done); (· refine piece_ok _ ?_ <;> omega)) | ((with_reducible refine qG_ri (f := 48) ?_ ?_ ?_ ?_ ?_ ?_ ?_); rotate_left 3; (· first | omega | decide); (· first | rfl | simp; done); (· refine piece_ok _ ?_ <;> omega)) | ((with_reducible refine zG_ri (f := 48) ?_ ?_ ?_ ?_ ?_ ?_ ?_); rotate_left 3; (· first | omega | decide); (· first | rfl | simp; done); (· refine piece_ok _ ?_ <;> omega)) | ((with_reducible refine call_ri (f := 99) ?_ ?_ ?_ ?_ ?_ ?_ ?_); rotate_left 3; (· first | omega | decide); (· first | rfl | simp; done); (· refine isOcc_ok _ ?_ <;> omega)) | ((with_reducible refine qG_ri (f := 99) ?_ ?_ ?_ ?_ ?_ ?_ ?_); rotate_left 3; (· first | omega | decide); (· first | rfl | simp; done); (· refine isOcc_ok _ ?_ <;> omega)) | ((with_reducible refine zG_ri (f := 99) ?_ ?_ ?_ ?_ ?_ ?_ ?_); rotate_left 3; (· first | omega | decide); (· first | rfl | simp; done); (· refine isOcc_ok _ ?_ <;> omega)) | ((with_reducible refine call_wi (f := 90) ?_ ?_ ?_ ?_ ?_ ?_ ?_ ?_); rotate_left 4; (· first | omega | decide); (· first | rfl | simp; done); (· refine addTag_ok _ <;> omega)) | (with_reducible first | refine call_p (type_ok) ?_ | refine qG_call (type_ok) ?_ | refine zG_call (type_ok) ?_ | refine yG_call (type_ok) ?_ | refine piG_call (type_ok) ?_ | refine call_p (other_ok) ?_ | refine qG_call (other_ok) ?_ | refine zG_call (other_ok) ?_ | refine yG_call (other_ok) ?_ | refine piG_call (other_ok) ?_) | ((with_reducible refine call_fr (pcopy_ok D B) [1, 2] ?_ ?_ ?_ ?_); (· kernel_rfl); (· exact ⟨by kernel_rfl, by kernel_rfl, trivial⟩); (· kernel_rfl); intro xx hx; simp -implicitDefEqProofs only [fixL_eq, setAll_cons, setAll_nil, setAll_nil2, List.map_cons, List.map_nil, rn_cells, rn_ro, rn_any, rn_obj, boardL_map, mvL_map, psL_map, map_ints, List.set_cons_zero, List.set_cons_succ, List.length_cons, List.length_nil, List.drop_succ_cons, List.drop_zero, List.drop_nil, List.append_nil, List.nil_append, List.cons_append, rl_tuple, rl_int, rl_bool, rl_string, rl_ptr, rl_ptr0, rl_slice, rl_slice0, rl_agg, List.map_toArray, Array.map_empty, List.length_append, Nat.zero_add, Nat.reduceAdd, sig, Nat.reduceLT, Nat.reduceSub, ↓reduceIte, List.getElem?_cons_zero, List.getElem?_cons_succ, List.getElem?_nil, Nat.reduceAdd, Nat.add_zero, Nat.sub_self]) | ((with_reducible refine call_fr (update_ok B { M with tags := tg2 D B M } h1 h2 hq) [3, 0] ?_ ?_ ?_ ?_); (· kernel_rfl); (· exact ⟨by kernel_rfl, by kernel_rfl, trivial⟩); (· kernel_rfl); intro xx hx; simp -implicitDefEqProofs only [fixL_eq, setAll_cons, setAll_nil, setAll_nil2, List.map_cons, List.map_nil, rn_cells, rn_ro, rn_any, rn_obj, boardL_map, mvL_map, psL_map, map_ints, List.set_cons_zero, List.set_cons_succ, List.length_cons, List.length_nil, List.drop_succ_cons, List.drop_zero, List.drop_nil, List.append_nil, List.nil_append, List.cons_append, rl_tuple, rl_int, rl_bool, rl_string, rl_ptr, rl_ptr0, rl_slice, rl_slice0, rl_agg, List.map_toArray, Array.map_empty, List.length_append, Nat.zero_add, Nat.reduceAdd, sig, Nat.reduceLT, Nat.reduceSub, ↓reduceIte, List.getElem?_cons_zero, List.getElem?_cons_succ, List.getElem?_nil, Nat.reduceAdd, Nat.add_zero, Nat.sub_self]) | ((with_reducible refine call_r2 103 (inChk_ok D (afterB D B M) ht hk.1 hk.2) ?_ ?_ ?_ ?_ ?_ ?_); (· first | omega | decide); (· first | rfl | assumption | simp; done); (· first | omega | decide); (· first | rfl | assumption | simp; done); (· first | omega | decide)) | ((with_reducible refine qG_r2 103 (inChk_ok D (afterB D B M) ht hk.1 hk.2) ?_ ?_ ?_ ?_ ?_ ?_); (· first | omega | decide); (· first | rfl | assumption | simp; done); (· first | omega | decide); (· first | rfl | assumption | simp; done); (· first | omega | decide)) | ((with_reducible refine zG_r2 103 (inChk_ok D (afterB D B M) ht hk.1 hk.2) ?_ ?_ ?_ ?_ ?_ ?_); (· first | omega | decide); (· first | rfl | assumption | simp; done); (· first | omega | decide); (· first | rfl | assumption | simp; done); (· first | omega | decide)) | ((with_reducible refine call_r2 103 (inChk_ok (otherD D) (afterB D B M) ht' hk.1 hk.2) ?_ ?_ ?_ ?_ ?_ ?_); (· first | omega | decide); (· first | rfl | assumption | simp; done); (· first | omega | decide); (· first | rfl | assumption | simp; done); (· first | omega | decide)) | ((with_reducible refine qG_r2 103 (inChk_ok (otherD D) (afterB D B M) ht' hk.1 hk.2) ?_ ?_ ?_ ?_ ?_ ?_); (· first | omega | decide); (· first | rfl | assumption | simp; done); (· first | omega | decide); (· first | rfl | assumption | simp; done); (· first | omega | decide)) | ((with_reducible refine zG_r2 103 (inChk_ok (otherD D) (afterB D B M) ht' hk.1 hk.2) ?_ ?_ ?_ ?_ ?_ ?_); (· first | omega | decide); (· first | rfl | assumption | simp; done); (· first | omega | decide); (· first | rfl | assumption | simp; done); (· first | omega | decide)) | with_reducible refine seq_k fun K hK => ?_ | (with_reducible refine hK _ _ ?_; clear hK) | ((with_reducible first | refine gd_dec ?_ ?_ | refine gd_ndec ?_ ?_ | refine qC_dec ?_ ?_ | refine qC_ndec ?_ ?_ | refine piC_dec ?_ ?_ | refine piC_ndec ?_ ?_ | refine zC_dec ?_ ?_ | refine zC_ndec ?_ ?_ | refine zD_dec ?_ ?_ | refine yC_dec ?_ ?_ | refine yC_ndec ?_ ?_ | refine if_dec ?_ ?_ | refine if_ndec ?_ ?_) <;> intro hh) | simp -implicitDefEqProofs (disch := first | omega | assumption) only [go_sem, ↓reduceIte, Nat.reduceEqDiff, Int.reduceEq, Nat.reduceAdd, Nat.reduceSub, Nat.reduceMul, Nat.mul_one, Nat.one_mul, List.length_nil, List.length_cons, List.nil_append, List.cons_append, List.length_append, List.set_cons_zero, List.set_cons_succ, Nat.zero_add, Nat.sub_zero, Option.isNone_none, Option.isNone_some, Int.toNat_natCast, Nat.add_sub_cancel_left, Bool.not_true, Bool.not_false, BitVec.reduceOfInt, Int.reduceToNat] | ((with_reducible first | refine gd_bool ?_ ?_ | refine if_bool ?_ ?_ | refine qC_bool ?_ ?_ | refine piC_bool ?_ ?_ | refine zC_bool ?_ ?_ | refine zD_bool ?_ ?_ | refine yC_bool ?_ ?_) <;> intro hh) | clear hK)
  all_goals first
    | (simp [Fr.sub, Fr.get]; done)
    | (rw [show tg4 D B M = _ from if_pos (by assumption)]; exact ⟨trivial, _, rfl⟩)
    | (rw [show tg4 D B M = _ from if_neg (by simp [*])]; exact ⟨trivial, _, rfl⟩)
    | (rw [show tg3 D B M = _ from if_pos (by assumption)]; rfl)
    | (rw [show tg3 D B M = _ from if_neg (by simp [*])]; rfl)
    | (simp only [tg2, *, true_and, and_true, true_or, or_true, false_or, or_false, false_and, and_false, ↓reduceIte, Int.reduceEq]; done)
    | (simp [tg2, *]; done)
    | (simp [tg1, *]; done)
    | (rw [show tg2 D B M = _ from (if_pos (by first | exact .inl ⟨by assumption, by assumption⟩ | exact .inr ⟨by assumption, by assumption⟩)).trans (if_pos (by omega))]; done)
    | (rw [show tg2 D B M = _ from (if_pos (by first | exact .inl ⟨by assumption, by assumption⟩ | exact .inr ⟨by assumption, by assumption⟩)).trans ((if_neg (by omega)).trans (if_pos (by omega)))]; done)
    | (rw [show tg1 D B M = _ from (if_neg (by rw [Bool.not_eq_true]; assumption)).trans (if_pos ⟨by assumption, by assumption⟩)]; done)
    | (rw [show tg1 D B M = _ from (if_neg (by rw [Bool.not_eq_true]; assumption)).trans (if_neg (by rintro ⟨a, b⟩; contradiction))]; done)
    | skip
end Go.Tb
end
section
namespace Go.Tb
open Go Go.Proofs
set_option maxRecDepth 20000
def RepF (c : Nat → Int) (B : Brd) : Prop := ∀ k : Nat, k < 12 → ∀ s : Nat, s < 64 → occB (B.f k) s = decide (c s = (k : Int) + 1)
theorem RepF.congr {c c' : Nat → Int} {B : Brd} (h : RepF c B) (e : ∀ s : Nat, s < 64 → c' s = c s) : RepF c' B := fun k hk s hs => by rw [e s hs]; exact h k hk s hs
theorem mapTo_f (g : BitVec 64 → BitVec 64) (B : Brd) {k : Nat} (h : k < 12) : (mapTo g 12 B).f k = g (B.f k) := by
  rcases k12 h with rfl | rfl | rfl | rfl | rfl | rfl | rfl | rfl | rfl | rfl | rfl | rfl <;> rfl
theorem put_f (B : Brd) (x : BitVec 64) {i k : Nat} (hi : i < 12) (hk : k < 12) : (B.put i x).f k = if k = i then x else B.f k := by
  rcases k12 hi with rfl | rfl | rfl | rfl | rfl | rfl | rfl | rfl | rfl | rfl | rfl | rfl <;>
    rcases k12 hk with rfl | rfl | rfl | rfl | rfl | rfl | rfl | rfl | rfl | rfl | rfl | rfl <;> rfl
theorem putP_f (B : Brd) (x : BitVec 64) {p : Int} {k : Nat} (hp : 1 ≤ p ∧ p ≤ 12) (hk : k < 12) : (putP B p x).f k = if (k : Int) + 1 = p then x else B.f k := by
  unfold putP
  rw [put_f B x (by omega) hk]
  by_cases h : (k : Int) + 1 = p
  · rw [if_pos h, if_pos (by omega)]
  · rw [if_neg h, if_neg (by omega)]
theorem getP_f (B : Brd) {p : Int} (hp : 1 ≤ p ∧ p ≤ 12) : getP B p = B.f (p - 1).toNat := by unfold getP; rw [if_pos hp.1]
section
variable {c : Nat → Int} {B : Brd} {M : Mv} {f t : Nat}
theorem updA_rep (h : RepF c B) (hf : f < 64) (ht : t < 64) (hft : f ≠ t) (h1 : M.s1 = f) (h2 : M.s2 = t) : RepF (upd (upd c f 0) t (c f)) (updA B M) := by
  intro k hk s hs
  have e1 := h k hk f hf
  have e2 := h k hk s hs
  unfold updA
  rw [mapTo_f _ _ hk, h1, h2, mvBB, upd_at]
  by_cases hst : s = t
  · subst hst
    rw [if_pos rfl]
    by_cases hp : c f = (k : Int) + 1
    · rw [if_pos (by rw [e1, decide_eq_true hp]), occ_or, occ_sq hs hs]; simp [hp]
    · rw [if_neg (by rw [e1, decide_eq_false hp]; simp), occ_and, occ_not _ hs, occ_sq hs hs]; simp [hp]
  · rw [if_neg hst, upd_at]
    by_cases hsf : s = f
    · subst hsf
      rw [if_pos rfl, decide_eq_false (by omega : ¬ (0 : Int) = (k : Int) + 1)]
      by_cases hp : c s = (k : Int) + 1
      · rw [if_pos (by rw [e1, decide_eq_true hp]), occ_or, occ_and, occ_and, occ_not _ hs, occ_not _ hs, occ_sq hs hs, occ_sq ht hs]; simp [Ne.symm hst]
      · rw [if_neg (by rw [e1, decide_eq_false hp]; simp), occ_and, e1, decide_eq_false hp]; rfl
    · rw [if_neg hsf, ← e2]
      split
      · rw [occ_or, occ_and, occ_and, occ_not _ hs, occ_not _ hs, occ_sq hf hs, occ_sq ht hs, decide_eq_false (Ne.symm hst), decide_eq_false (Ne.symm hsf)]; simp
      · rw [occ_and, occ_not _ hs, occ_sq ht hs, decide_eq_false (Ne.symm hst)]; simp
theorem updP_rep (h : RepF c B) (ht : t < 64) {p0 q : Int} (h0 : c t = p0) (hp : 1 ≤ p0 ∧ p0 ≤ 12) (hq : q = M.promo + 6 * (pCol p0 - 1)) (hq2 : 1 ≤ q ∧ q ≤ 12) (hn : M.promo ≠ 0) (h2 : M.s2 = t) : RepF (upd c t q) (updP B M p0) := by
  intro k hk s hs
  unfold updP
  rw [if_neg hn]
  simp only
  rw [← hq, putP_f _ _ hq2 hk, getP_f _ hq2, putP_f _ _ hp (by omega), putP_f _ _ hp hk, getP_f _ hp, h2, upd_at]
  have e3 := h (p0 - 1).toNat (by omega) s hs
  rw [show (((p0 - 1).toNat : Nat) : Int) + 1 = p0 by omega] at e3
  have e4 := h k hk s hs
  have e5 := h (q - 1).toNat (by omega) s hs
  rw [show (((q - 1).toNat : Nat) : Int) + 1 = q by omega] at e5
  by_cases hst : s = t
  · subst hst
    rw [if_pos rfl]
    by_cases hk1 : (k : Int) + 1 = q
    · rw [if_pos hk1, occ_or, occ_sq hs hs]; simp [hk1]
    · rw [if_neg hk1, decide_eq_false (fun e => hk1 e.symm)]
      by_cases hk2 : (k : Int) + 1 = p0
      · rw [if_pos hk2, occ_and, occ_not _ hs, occ_sq hs hs]; simp
      · rw [if_neg hk2, e4]; exact decide_eq_false (by omega)
  · rw [if_neg hst]
    by_cases hk1 : (k : Int) + 1 = q
    · rw [if_pos hk1, occ_or, occ_sq ht hs, decide_eq_false (Ne.symm hst), Bool.or_false, hk1]
      by_cases hqp : (((q - 1).toNat : Nat) : Int) + 1 = p0
      · rw [if_pos hqp, occ_and, occ_not _ hs, occ_sq ht hs, decide_eq_false (Ne.symm hst), e3]
        rw [show q = p0 by omega]; simp
      · rw [if_neg hqp, e5]
    · rw [if_neg hk1]
      by_cases hk2 : (k : Int) + 1 = p0
      · rw [if_pos hk2, occ_and, occ_not _ hs, occ_sq ht hs, decide_eq_false (Ne.symm hst), e3, hk2]; simp
      · rw [if_neg hk2, e4]
theorem off_rep {B' : Brd} {e r : Nat} (h : RepF c B) (he : e < 64) (hr : r < 12) (hc : c e = (r : Int) + 1) (h1 : ∀ s : Nat, s < 64 → occB (B'.f r) s = (occB (B.f r) s && !decide (e = s))) (h2 : ∀ k : Nat, k < 12 → k ≠ r → B'.f k = B.f k) : RepF (upd c e 0) B' := by
  intro k hk s hs
  rw [upd_at]
  by_cases hkr : k = r
  · subst hkr
    rw [h1 s hs, h k hk s hs]
    by_cases hse : s = e
    · subst hse; rw [if_pos rfl]; simp; omega
    · rw [if_neg hse, decide_eq_false (Ne.symm hse)]; simp
  · rw [h2 k hk hkr, h k hk s hs]
    by_cases hse : s = e
    · subst hse; rw [if_pos rfl, hc]; exact decide_eq_decide.2 (by omega)
    · rw [if_neg hse]
theorem rook_rep {B' : Brd} {a b r : Nat} (h : RepF c B) (ha : a < 64) (hb : b < 64) (hab : a ≠ b) (hr : r < 12) (hc : c a = (r : Int) + 1) (hc2 : c b = 0) (h1 : B'.f r = B.f r &&& ~~~ sqB a ||| sqB b) (h2 : ∀ k : Nat, k < 12 → k ≠ r → B'.f k = B.f k) : RepF (upd (upd c a 0) b ((r : Int) + 1)) B' := by
  intro k hk s hs
  rw [upd_at]
  by_cases hkr : k = r
  · subst hkr
    rw [h1, occ_or, occ_and, occ_not _ hs, occ_sq ha hs, occ_sq hb hs, h k hk s hs]
    by_cases hsb : s = b
    · subst hsb; rw [if_pos rfl]; simp
    · rw [if_neg hsb, decide_eq_false (Ne.symm hsb), upd_at]
      by_cases hsa : s = a
      · subst hsa; rw [if_pos rfl]; simp; omega
      · rw [if_neg hsa, decide_eq_false (Ne.symm hsa)]; simp
  · rw [h2 k hk hkr, h k hk s hs]
    by_cases hsb : s = b
    · subst hsb; rw [if_pos rfl, hc2]; exact decide_eq_decide.2 (by omega)
    · rw [if_neg hsb, upd_at]
      by_cases hsa : s = a
      · subst hsa; rw [if_pos rfl, hc]; exact decide_eq_decide.2 (by omega)
      · rw [if_neg hsa]
theorem sq_up {s : Nat} (hs : 8 ≤ s ∧ s < 64) : sqB (s : Int) <<< 8 = sqB ((s - 8 : Nat) : Int) := by
  refine occ_ext fun u hu => ?_
  rw [occ_shl _ _ hu, occ_sq (by omega) hu]
  by_cases h : u + 8 < 64
  · rw [occ_sq hs.2 h, decide_eq_true h, Bool.true_and]; exact decide_eq_decide.2 (by omega)
  · rw [decide_eq_false h, Bool.false_and]; exact (decide_eq_false (by omega)).symm
theorem sq_dn {s : Nat} (hs : s < 56) : sqB (s : Int) >>> 8 = sqB ((s + 8 : Nat) : Int) := by
  refine occ_ext fun u hu => ?_
  rw [occ_shr _ _ hu, occ_sq (by omega) hu]
  by_cases h : 8 ≤ u
  · rw [occ_sq (by omega) (by omega), decide_eq_true h, Bool.true_and]; exact decide_eq_decide.2 (by omega)
  · rw [decide_eq_false h, Bool.false_and]; exact (decide_eq_false (by omega)).symm
theorem calcM_f (B : Brd) (M : Mv) (k : Nat) : (calcM B M).f k = B.f k := by
  unfold calcM
  split
  · rcases Nat.lt_or_ge k 12 with h | h
    · rcases k12 h with rfl | rfl | rfl | rfl | rfl | rfl | rfl | rfl | rfl | rfl | rfl | rfl <;> rfl
    · unfold Brd.f; split <;> first | omega | rfl
  · split
    · rcases Nat.lt_or_ge k 12 with h | h
      · rcases k12 h with rfl | rfl | rfl | rfl | rfl | rfl | rfl | rfl | rfl | rfl | rfl | rfl <;> rfl
      · unfold Brd.f; split <;> first | omega | rfl
    · rcases Nat.lt_or_ge k 12 with h | h
      · rcases k12 h with rfl | rfl | rfl | rfl | rfl | rfl | rfl | rfl | rfl | rfl | rfl | rfl <;> rfl
      · unfold Brd.f; split <;> first | omega | rfl
theorem calcM_w (B : Brd) (M : Mv) : (calcM B M).w = whiteOf (calcM B M) ∧ (calcM B M).b = blackOf (calcM B M) ∧ (calcM B M).e = ~~~(whiteOf (calcM B M) ||| blackOf (calcM B M)) := by
  unfold calcM; split
  · exact ⟨rfl, rfl, rfl⟩
  · split <;> exact ⟨rfl, rfl, rfl⟩
theorem calcM_wks (B : Brd) (M : Mv) : (calcM B M).wks = if M.s1 = B.wks then M.s2 else B.wks := by
  unfold calcM; split
  · rfl
  · split <;> rfl
theorem calcM_bks (B : Brd) (M : Mv) : (calcM B M).bks = if M.s1 = B.wks then B.bks else if M.s1 = B.bks then M.s2 else B.bks := by
  unfold calcM; split
  · rfl
  · split <;> rfl
theorem updB_of {c' : Nat → Int} (h : RepB c B) (hr : RepF c' (updC (updE (updP (updA B M) M (pieceAt B M.s1)) M (pieceAt B M.s1)) M (pieceAt B M.s1)))
    (hw : kingI c' 0 = if M.s1 = kingI c 0 then M.s2 else kingI c 0) (hb : kingI c' 1 = if M.s1 = kingI c 0 then kingI c 1 else if M.s1 = kingI c 1 then M.s2 else kingI c 1) : RepB c' (updB B M) := by
  have hk := updB_kings0 B M (pieceAt B M.s1)
  unfold updB
  simp only
  obtain ⟨q1, q2, q3⟩ := calcM_w (updC (updE (updP (updA B M) M (pieceAt B M.s1)) M (pieceAt B M.s1)) M (pieceAt B M.s1)) M
  refine ⟨fun k hk s hs => ?_, q1, q2, q3, ?_, ?_⟩
  · rw [calcM_f]; exact hr k hk s hs
  · rw [calcM_wks, hk.1, h.wks, hw]
  · rw [calcM_bks, hk.1, hk.2, h.wks, h.bks, hb]
end
end Go.Tb
end
section
namespace Go.Tb
open Go Go.Proofs
set_option maxRecDepth 20000
def KingAt (c : Nat → Int) (b : Int) (k : Nat) : Prop := k < 64 ∧ c k = 1 + 6 * b ∧ ∀ i : Nat, i < 64 → c i = 1 + 6 * b → i = k
theorem KingAt.eq {c : Nat → Int} {b : Int} {k : Nat} (h : KingAt c b k) : kingI c b = k := kingI_eq h.1 h.2.1 h.2.2
theorem side_b {n : Int} (h : 1 ≤ n ∧ n ≤ 12) : (sideOf n = 0 ∧ n ≤ 6) ∨ (sideOf n = 1 ∧ 7 ≤ n) := by unfold sideOf; split <;> omega
theorem madeC_lo {c : Nat → Int} {f t p : Int} {s : Nat} (hs : s < 64) : madeC c f t p s = mdCast c f t p s := by
  unfold madeC
  simp only [upd_at]
  rw [if_neg (by omega), if_neg (by omega), if_neg (by omega), if_neg (by omega), if_neg (by omega)]
structure MvB (c : Nat → Int) (f t : Nat) : Prop where
  hf : f < 64
  ht : t < 64
  ne : f ≠ t
  own : c f ≠ 0 ∧ sideOf (c f) = c 64
  tgt : c t = 0 ∨ sideOf (c t) ≠ c 64
  noking : c t ≠ 1 + 6 * (1 - c 64)
structure MvN (c : Nat → Int) (f t : Nat) (p : Int) : Prop extends MvB c f t where
  nops : takesIs c f t = true → takesSq c f t = t
  nocas : ¬ isCastle c f t
  promo : p = 0 ∨ ((2 ≤ p ∧ p ≤ 5) ∧ kindOf (c f) = 6)
structure MvE (c : Nat → Int) (f t e : Nat) : Prop extends MvB c f t where
  pawn : kindOf (c f) = 6
  empty : c t = 0
  ep : (t : Int) = c 66
  file : (f : Int) % 8 ≠ (t : Int) % 8
  eq : (e : Int) = (t : Int) - 8 * upOf (c 64)
  rk : (t : Int) / 8 = (f : Int) / 8 + upOf (c 64)
  he : e < 64
  take : c e = 6 + 6 * (1 - c 64)
def casF (r : Nat) : Nat := if r < 2 then 4 else 60
def casT (r : Nat) : Nat := if r = 0 then 6 else if r = 1 then 2 else if r = 2 then 62 else 58
def casR (r : Nat) : Nat := if r = 0 then 7 else if r = 1 then 0 else if r = 2 then 63 else 56
def casM (r : Nat) : Nat := if r = 0 then 5 else if r = 1 then 3 else if r = 2 then 61 else 59
structure MvK (c : Nat → Int) (r : Nat) : Prop where
  hr : r < 4
  side : c 64 = ((r / 2 : Nat) : Int)
  king : c (casF r) = 1 + 6 * c 64
  rook : c (casR r) = 3 + 6 * c 64
  mid : c (casM r) = 0
  to : c (casT r) = 0
section
variable {c : Nat → Int} {f t e r : Nat} {p : Int}
theorem tgt_in (h : MvB c f t) (hi : InvC c) : (1 ≤ c f ∧ c f ≤ 12) ∧ (c 64 = 0 ∨ c 64 = 1) ∧ (0 ≤ c t ∧ c t ≤ 12) := by
  have h1 := hi.bd f h.hf
  have h2 := hi.bd t h.ht
  have h3 := hi.turn
  have h4 := h.own.1
  omega
theorem cells_N (h : MvN c f t p) {s : Nat} (hs : s < 64) : madeC c f t p s = if s = t then (if p = 0 then c f else p + 6 * c 64) else if s = f then 0 else c s := by
  rw [madeC_lo hs, mdCast, if_neg h.nocas]
  have hm : ∀ s : Nat, s < 64 → mdMove c f t s = if s = t then c f else if s = f then 0 else c s := fun s hs => by
    unfold mdMove
    rw [upd_at, upd_at, Int.toNat_natCast, Int.toNat_natCast]
    by_cases h1 : s = t
    · rw [if_pos h1, if_pos h1]
    · rw [if_neg h1, if_neg h1]
      by_cases h2 : s = f
      · rw [if_pos h2, if_pos h2]
      · rw [if_neg h2, if_neg h2]
        unfold mdTake
        by_cases hk : takesIs c f t = true
        · rw [if_pos hk, h.nops hk, Int.toNat_natCast, upd_at, if_neg h1]
        · rw [if_neg hk]
  unfold mdProm
  by_cases hp : p = 0
  · rw [if_pos hp, hm s hs]; simp [hp]
  · rw [if_neg hp, Int.toNat_natCast, upd_at]
    by_cases h1 : s = t
    · rw [if_pos h1, if_pos h1, if_neg hp]
    · rw [if_neg h1, if_neg h1, hm s hs, if_neg h1]
theorem cells_E (h : MvE c f t e) (hi : InvC c) {s : Nat} (hs : s < 64) : madeC c f t 0 s = if s = t then c f else if s = f then 0 else if s = e then 0 else c s := by
  have hno : ¬ isCastle c f t := fun hc => by have := hc.1; rw [Int.toNat_natCast, h.pawn] at this; cases this
  have hk : takesIs c f t = true := by
    unfold takesIs; rw [Int.toNat_natCast, Int.toNat_natCast, if_neg (by simp [h.empty]), if_pos ⟨h.pawn, h.file⟩]
  have hu : upOf (c 64) = 1 ∨ upOf (c 64) = -1 := by have := hi.turn; unfold upOf; omega
  have hq : takesSq c f t = e := by
    have h1 := h.eq; have h2 := h.rk; have h3 := h.ht; have h4 := h.hf
    unfold takesSq; rw [Int.toNat_natCast, Int.toNat_natCast, if_neg (by simp [h.empty]), if_pos ⟨h.pawn, h.file⟩]
    unfold atSq; rw [if_neg (by omega)]; omega
  rw [madeC_lo hs, mdCast, if_neg hno, mdProm, if_pos rfl, mdMove, mdTake, if_pos hk, hq]
  simp only [Int.toNat_natCast, upd_at]
theorem cas_facts (h : r < 4) : casF r < 64 ∧ casT r < 64 ∧ casR r < 64 ∧ casM r < 64 ∧ casF r ≠ casT r ∧ casF r ≠ casR r ∧ casF r ≠ casM r ∧ casT r ≠ casR r ∧ casT r ≠ casM r ∧ casR r ≠ casM r ∧ ((casT r : Int) = casF r + 2 ∨ (casT r : Int) = casF r - 2) ∧ cornerOf (casF r) (casT r) = casR r ∧ ((casF r : Int) + casT r) / 2 = casM r := by
  have : r = 0 ∨ r = 1 ∨ r = 2 ∨ r = 3 := by omega
  rcases this with rfl | rfl | rfl | rfl <;> decide
theorem MvK.toB (h : MvK c r) (hi : InvC c) : MvB c (casF r) (casT r) := by
  obtain ⟨h1, h2, _, _, h5, _⟩ := cas_facts h.hr
  have ht := hi.turn
  refine ⟨h1, h2, h5, ⟨by rw [h.king]; omega, ?_⟩, .inl h.to, by rw [h.to]; omega⟩
  rw [h.king]; unfold sideOf; split <;> omega
theorem kind_king {n : Int} (h : n = 0 ∨ n = 1) : kindOf (1 + 6 * n) = 1 := by rcases h with rfl | rfl <;> rfl
theorem MvK.cas (h : MvK c r) (hi : InvC c) : isCastle c (casF r) (casT r) := by
  have hf := cas_facts h.hr
  refine ⟨?_, hf.2.2.2.2.2.2.2.2.2.2.1⟩
  rw [Int.toNat_natCast, h.king]
  exact kind_king (by have := hi.turn; omega)
theorem cells_K (h : MvK c r) (hi : InvC c) {s : Nat} (hs : s < 64) : madeC c (casF r) (casT r) 0 s = if s = casM r then 3 + 6 * c 64 else if s = casR r then 0 else if s = casT r then c (casF r) else if s = casF r then 0 else c s := by
  obtain ⟨h1, h2, h3, h4, h5, h6, h7, h8, h9, h10, h11, h12, h13⟩ := cas_facts h.hr
  have hk : takesIs c (casF r) (casT r) = false := by
    unfold takesIs; rw [Int.toNat_natCast, Int.toNat_natCast, if_neg (by simp [h.to]), if_neg]
    rintro ⟨a, _⟩
    rw [h.king, kind_king (by have := hi.turn; omega)] at a; cases a
  rw [madeC_lo hs, mdCast, if_pos (h.cas hi), h12, h13, mdProm, if_pos rfl, mdMove, mdTake, if_neg (by rw [hk]; simp)]
  simp only [Int.toNat_natCast, upd_at]
theorem kings_N (h : MvN c f t p) (hi : InvC c) {b : Int} (hb : b = 0 ∨ b = 1) {k : Nat} (hk : KingAt c b k) : KingAt (madeC c f t p) b (if f = k then t else k) := by
  obtain ⟨h1, h2, h3⟩ := tgt_in h.toMvB hi
  obtain ⟨k1, k2, k3⟩ := hk
  have ho := h.own; have ht := h.tgt; have hn := h.noking; have hpr := h.promo; have hlf := h.hf; have hlt := h.ht; have hne := h.ne
  have hsf := side_b h1
  have hst : 1 ≤ c t → (sideOf (c t) = 0 ∧ c t ≤ 6) ∨ (sideOf (c t) = 1 ∧ 7 ≤ c t) := fun hx => side_b ⟨hx, h3.2⟩
  have hkf : kindOf (c f) = 6 → c f = 6 ∨ c f = 12 := by unfold kindOf; split <;> omega
  have hkt : k ≠ t := by
    rintro rfl
    rcases ht with ht | ht <;> omega
  refine ⟨by split <;> omega, ?_, fun i hi' e => ?_⟩
  · split
    · rename_i e; subst e
      rw [cells_N h h.ht, if_pos rfl, if_pos (by omega)]; exact k2
    · rename_i e
      rw [cells_N h k1, if_neg hkt, if_neg (Ne.symm e)]; exact k2
  · rw [cells_N h hi'] at e
    split at e
    · rename_i e2; subst e2
      split at e
      · have := k3 f h.hf e; rw [if_pos this]
      · omega
    · split at e
      · omega
      · have := k3 i hi' e
        subst this
        rw [if_neg (by omega)]
theorem kings_E (h : MvE c f t e) (hi : InvC c) {b : Int} (hb : b = 0 ∨ b = 1) {k : Nat} (hk : KingAt c b k) : KingAt (madeC c f t 0) b (if f = k then t else k) := by
  obtain ⟨h1, h2, h3⟩ := tgt_in h.toMvB hi
  obtain ⟨k1, k2, k3⟩ := hk
  have hlf := h.hf; have hlt := h.ht; have hne := h.ne; have hem := h.empty; have hta := h.take; have hp := h.pawn
  have hkf : c f = 6 ∨ c f = 12 := by unfold kindOf at hp; split at hp <;> omega
  have hfk : f ≠ k := by rintro rfl; omega
  have hkt : k ≠ t := by rintro rfl; omega
  have hke : k ≠ e := by rintro rfl; omega
  rw [if_neg hfk]
  refine ⟨k1, ?_, fun i hi' e' => ?_⟩
  · rw [cells_E h hi k1, if_neg hkt, if_neg (Ne.symm hfk), if_neg hke]; exact k2
  · rw [cells_E h hi hi'] at e'
    split at e'
    · omega
    · split at e'
      · omega
      · split at e'
        · omega
        · exact k3 i hi' e'
theorem kings_K (h : MvK c r) (hi : InvC c) {b : Int} (hb : b = 0 ∨ b = 1) {k : Nat} (hk : KingAt c b k) : KingAt (madeC c (casF r) (casT r) 0) b (if casF r = k then casT r else k) := by
  obtain ⟨h1, h2, h3, h4, h5, h6, h7, h8, h9, h10, h11, h12, h13⟩ := cas_facts h.hr
  obtain ⟨k1, k2, k3⟩ := hk
  have ht := hi.turn
  have hto := h.to; have hmi := h.mid; have hro := h.rook; have hki := h.king
  have hkt : k ≠ casT r := by rintro rfl; omega
  have hkm : k ≠ casM r := by rintro rfl; omega
  have hkr : k ≠ casR r := by rintro rfl; omega
  refine ⟨by split <;> omega, ?_, fun i hi' e => ?_⟩
  · split
    · rename_i e; subst e
      rw [cells_K h hi h2, if_neg h9, if_neg h8, if_pos rfl]; exact k2
    · rename_i e
      rw [cells_K h hi k1, if_neg hkm, if_neg hkr, if_neg hkt, if_neg (Ne.symm e)]; exact k2
  · rw [cells_K h hi hi'] at e
    split at e
    · omega
    · split at e
      · omega
      · split at e
        · rename_i e2; subst e2
          have := k3 (casF r) h1 e; rw [if_pos this]
        · split at e
          · omega
          · rename_i a1 a2 a3 a4
            have := k3 i hi' e
            subst this
            rw [if_neg (Ne.symm a4)]
theorem kingsUp {c' : Nat → Int} {M : Mv} (hi : InvC c) (hM1 : M.s1 = f) (hM2 : M.s2 = t) (hk : ∀ b : Int, b = 0 ∨ b = 1 → ∀ k : Nat, KingAt c b k → KingAt c' b (if f = k then t else k)) :
    kingI c' 0 = (if M.s1 = kingI c 0 then M.s2 else kingI c 0) ∧ kingI c' 1 = (if M.s1 = kingI c 0 then kingI c 1 else if M.s1 = kingI c 1 then M.s2 else kingI c 1) := by
  obtain ⟨k0, a0, a1, a2⟩ := hi.king 0 (.inl rfl)
  obtain ⟨k1, b0, b1, b2⟩ := hi.king 1 (.inr rfl)
  have ha : KingAt c 0 k0 := ⟨a0, a1, a2⟩
  have hb : KingAt c 1 k1 := ⟨b0, b1, b2⟩
  have hne : k0 ≠ k1 := by rintro rfl; omega
  rw [(hk 0 (.inl rfl) k0 ha).eq, (hk 1 (.inr rfl) k1 hb).eq, ha.eq, hb.eq, hM1, hM2]
  constructor
  · by_cases h : f = k0
    · rw [if_pos h, if_pos (by omega)]
    · rw [if_neg h, if_neg (by omega)]
  · by_cases h : f = k0
    · rw [if_neg (by omega), if_pos (by omega)]
    · rw [if_neg (show ¬ (f : Int) = k0 by omega)]
      by_cases h1 : f = k1
      · rw [if_pos h1, if_pos (by omega)]
      · rw [if_neg h1, if_neg (by omega)]
end
end Go.Tb
end
section
namespace Go.Tb
open Go Go.Proofs
set_option maxRecDepth 20000
section
variable {c : Nat → Int} {B : Brd} {M : Mv} {f t e r : Nat} {p : Int}
theorem updB_N (hr : RepB c B) (hi : InvC c) (h : MvN c f t p) (h1 : M.s1 = f) (h2 : M.s2 = t) (h3 : M.promo = p) (t8 : tagOn M 8 = false) (t1 : tagOn M 1 = false) (t2 : tagOn M 2 = false) : RepB (madeC c f t p) (updB B M) := by
  obtain ⟨q1, q2, q3⟩ := tgt_in h.toMvB hi
  have hp : pieceAt B M.s1 = c f := by rw [h1]; exact pieceAt_rep hr hi.bd h.hf
  obtain ⟨w1, w2⟩ := kingsUp (c' := madeC c f t p) hi h1 h2 fun b hb k hk => kings_N h hi hb hk
  refine updB_of hr ?_ w1 w2
  rw [hp]
  have hA := updA_rep (c := c) (fun k hk s hs => hr.f k hk s hs) h.hf h.ht h.ne h1 h2
  have hC : ∀ X : Brd, updC (updE X M (c f)) M (c f) = X := fun X => by
    unfold updC updE
    rw [t8, t1, t2]; simp
  rw [hC]
  by_cases hp0 : p = 0
  · have e : updP (updA B M) M (c f) = updA B M := by unfold updP; rw [if_pos (by rw [h3]; exact hp0)]
    rw [e]
    refine hA.congr fun s hs => ?_
    rw [cells_N h hs, upd_at, upd_at, if_pos hp0]
  · rcases h.promo with hq | ⟨hq1, hq2⟩
    · exact absurd hq hp0
    · have hcol := col_side q1
      have hsd := h.own.2
      have hP := updP_rep (M := M) hA h.ht (p0 := c f) (q := p + 6 * c 64) (by rw [upd_at, if_pos rfl]) q1 (by rw [h3, hcol, hsd]; omega) (by omega) (by rw [h3]; exact hp0) h2
      refine hP.congr fun s hs => ?_
      rw [cells_N h hs, upd_at, upd_at, upd_at, if_neg hp0]
      by_cases hs1 : s = t
      · rw [if_pos hs1, if_pos hs1]
      · rw [if_neg hs1, if_neg hs1, if_neg hs1]
theorem updB_E (hr : RepB c B) (hi : InvC c) (h : MvE c f t e) (h1 : M.s1 = f) (h2 : M.s2 = t) (h3 : M.promo = 0) (t8 : tagOn M 8 = true) (t1 : tagOn M 1 = false) (t2 : tagOn M 2 = false) : RepB (madeC c f t 0) (updB B M) := by
  obtain ⟨q1, q2, q3⟩ := tgt_in h.toMvB hi
  have hp : pieceAt B M.s1 = c f := by rw [h1]; exact pieceAt_rep hr hi.bd h.hf
  obtain ⟨w1, w2⟩ := kingsUp (c' := madeC c f t 0) hi h1 h2 fun b hb k hk => kings_E h hi hb hk
  refine updB_of hr ?_ w1 w2
  rw [hp]
  have hA := updA_rep (c := c) (fun k hk s hs => hr.f k hk s hs) h.hf h.ht h.ne h1 h2
  have hP : updP (updA B M) M (c f) = updA B M := by unfold updP; rw [if_pos h3]
  have hC : ∀ X : Brd, updC X M (c f) = X := fun X => by unfold updC; rw [t1, t2]; simp
  rw [hP, hC]
  have hpw := h.pawn; have hlt := h.ht; have hlf := h.hf; have heq := h.eq; have htk := h.take; have hown := h.own.2; have hem := h.empty; have he := h.he
  have hkf : c f = 6 ∨ c f = 12 := by unfold kindOf at hpw; split at hpw <;> omega
  have hsb := side_b q1
  have hef : e ≠ f := by rintro rfl; omega
  have het : e ≠ t := by rintro rfl; omega
  have hce : (upd (upd c f 0) t (c f)) e = 6 + 6 * (1 - c 64) := by rw [upd_at, if_neg het, upd_at, if_neg hef]; exact htk
  have key : RepF (upd (upd (upd c f 0) t (c f)) e 0) (updE (updA B M) M (c f)) := by
    unfold updE
    rw [if_pos t8]
    rcases hkf with hkf | hkf
    · have h64 : c 64 = 0 := by rw [hkf] at hown; exact hown.symm
      have hu : upOf (c 64) = 1 := by rw [h64]; rfl
      rw [if_pos (by rw [hkf]; rfl)]
      refine off_rep hA he (r := 11) (by decide) (by rw [hce, h64]; rfl) (fun s hs => ?_) (fun k hk hk2 => ?_)
      · show occB (~~~(sqB M.s2 <<< 8) &&& (updA B M).bp) s = (occB (updA B M).bp s && !decide (e = s))
        rw [h2, sq_up (by omega), occ_and, occ_not _ hs, occ_sq (by omega) hs, Bool.and_comm, show t - 8 = e by omega]
      · rcases k12 hk with rfl | rfl | rfl | rfl | rfl | rfl | rfl | rfl | rfl | rfl | rfl | rfl <;> first | rfl | exact absurd rfl hk2
    · have h64 : c 64 = 1 := by rw [hkf] at hown; exact hown.symm
      have hu : upOf (c 64) = -1 := by rw [h64]; rfl
      rw [if_neg (by rw [hkf]; decide)]
      refine off_rep hA he (r := 5) (by decide) (by rw [hce, h64]; rfl) (fun s hs => ?_) (fun k hk hk2 => ?_)
      · show occB (~~~(sqB M.s2 >>> 8) &&& (updA B M).wp) s = (occB (updA B M).wp s && !decide (e = s))
        rw [h2, sq_dn (by omega), occ_and, occ_not _ hs, occ_sq (by omega) hs, Bool.and_comm, show t + 8 = e by omega]
      · rcases k12 hk with rfl | rfl | rfl | rfl | rfl | rfl | rfl | rfl | rfl | rfl | rfl | rfl <;> first | rfl | exact absurd rfl hk2
  refine key.congr fun s hs => ?_
  rw [cells_E h hi hs, upd_at, upd_at, upd_at]
  by_cases h5 : s = e
  · subst h5; simp [het, hef]
  · by_cases h6 : s = t
    · subst h6; simp [h5]
    · simp [h5, h6]
theorem updB_K (hr : RepB c B) (hi : InvC c) (h : MvK c r) (h1 : M.s1 = casF r) (h2 : M.s2 = casT r) (h3 : M.promo = 0) (t8 : tagOn M 8 = false) (t1 : tagOn M 1 = decide (r % 2 = 0)) (t2 : tagOn M 2 = decide (r % 2 = 1)) : RepB (madeC c (casF r) (casT r) 0) (updB B M) := by
  obtain ⟨c1, c2, c3, c4, c5, c6, c7, c8, c9, c10, c11, c12, c13⟩ := cas_facts h.hr
  have hp : pieceAt B M.s1 = c (casF r) := by rw [h1]; exact pieceAt_rep hr hi.bd c1
  obtain ⟨w1, w2⟩ := kingsUp (c' := madeC c (casF r) (casT r) 0) hi h1 h2 fun b hb k hk => kings_K h hi hb hk
  refine updB_of hr ?_ w1 w2
  rw [hp]
  have hA := updA_rep (c := c) (fun k hk s hs => hr.f k hk s hs) c1 c2 c5 h1 h2
  have hP : updP (updA B M) M (c (casF r)) = updA B M := by unfold updP; rw [if_pos h3]
  have hE : updE (updA B M) M (c (casF r)) = updA B M := by unfold updE; rw [if_neg (by rw [t8]; simp)]
  rw [hP, hE]
  have hki := h.king; have hro := h.rook; have hmi := h.mid; have hsd := h.side
  have hca : (upd (upd c (casF r) 0) (casT r) (c (casF r))) (casR r) = 3 + 6 * c 64 := by rw [upd_at, if_neg (Ne.symm c8), upd_at, if_neg (Ne.symm c6)]; exact hro
  have hcm : (upd (upd c (casF r) 0) (casT r) (c (casF r))) (casM r) = 0 := by rw [upd_at, if_neg (Ne.symm c9), upd_at, if_neg (Ne.symm c7)]; exact hmi
  have key : RepF (upd (upd (upd (upd c (casF r) 0) (casT r) (c (casF r))) (casR r) 0) (casM r) (3 + 6 * c 64)) (updC (updA B M) M (c (casF r))) := by
    unfold updC
    rw [t1, t2]
    have hr4 : r = 0 ∨ r = 1 ∨ r = 2 ∨ r = 3 := by have := h.hr; omega
    rcases hr4 with rfl | rfl | rfl | rfl
    · have h64 : c 64 = 0 := hsd
      have hpc : pCol (c (casF 0)) = 1 := by rw [hki, h64]; rfl
      have e3 : (3 + 6 * c 64 : Int) = ((2 : Nat) : Int) + 1 := by rw [h64]; rfl
      rw [if_pos (by rw [hpc]; decide), e3]
      exact rook_rep (r := 2) hA (a := 7) (b := 5) (by decide) (by decide) (by decide) (by decide) (by rw [← e3]; exact hca) hcm rfl fun k hk hk2 => by
        rcases k12 hk with rfl | rfl | rfl | rfl | rfl | rfl | rfl | rfl | rfl | rfl | rfl | rfl <;> first | rfl | exact absurd rfl hk2
    · have h64 : c 64 = 0 := hsd
      have hpc : pCol (c (casF 1)) = 1 := by rw [hki, h64]; rfl
      have e3 : (3 + 6 * c 64 : Int) = ((2 : Nat) : Int) + 1 := by rw [h64]; rfl
      rw [if_neg (by rw [hpc]; decide), if_pos (by rw [hpc]; decide), e3]
      exact rook_rep (r := 2) hA (a := 0) (b := 3) (by decide) (by decide) (by decide) (by decide) (by rw [← e3]; exact hca) hcm rfl fun k hk hk2 => by
        rcases k12 hk with rfl | rfl | rfl | rfl | rfl | rfl | rfl | rfl | rfl | rfl | rfl | rfl <;> first | rfl | exact absurd rfl hk2
    · have h64 : c 64 = 1 := hsd
      have hpc : pCol (c (casF 2)) = 2 := by rw [hki, h64]; rfl
      have e3 : (3 + 6 * c 64 : Int) = ((8 : Nat) : Int) + 1 := by rw [h64]; rfl
      rw [if_neg (by rw [hpc]; decide), if_neg (by rw [hpc]; decide), if_pos (by rw [hpc]; decide), e3]
      exact rook_rep (r := 8) hA (a := 63) (b := 61) (by decide) (by decide) (by decide) (by decide) (by rw [← e3]; exact hca) hcm rfl fun k hk hk2 => by
        rcases k12 hk with rfl | rfl | rfl | rfl | rfl | rfl | rfl | rfl | rfl | rfl | rfl | rfl <;> first | rfl | exact absurd rfl hk2
    · have h64 : c 64 = 1 := hsd
      have hpc : pCol (c (casF 3)) = 2 := by rw [hki, h64]; rfl
      have e3 : (3 + 6 * c 64 : Int) = ((8 : Nat) : Int) + 1 := by rw [h64]; rfl
      rw [if_neg (by rw [hpc]; decide), if_neg (by rw [hpc]; decide), if_neg (by rw [hpc]; decide), if_pos (by rw [hpc]; decide), e3]
      exact rook_rep (r := 8) hA (a := 56) (b := 59) (by decide) (by decide) (by decide) (by decide) (by rw [← e3]; exact hca) hcm rfl fun k hk hk2 => by
        rcases k12 hk with rfl | rfl | rfl | rfl | rfl | rfl | rfl | rfl | rfl | rfl | rfl | rfl <;> first | rfl | exact absurd rfl hk2
  refine key.congr fun s hs => ?_
  rw [cells_K h hi hs, upd_at, upd_at, upd_at, upd_at]
end
end Go.Tb
end
section
namespace Go.Tb
open Go Go.Proofs
set_option maxRecDepth 20000
def onT (g x : Int) : Bool := decide (0 < band .u16 g x)
theorem tagOn_eq (M : Mv) (g : Int) : tagOn M g = onT g M.tags := rfl
def tOk (x : Int) : Prop := 0 ≤ x ∧ x < 64
theorem or_all : ∀ x : Fin 64, ∀ i : Fin 6, (0 ≤ bor .u16 (x.val : Int) (2 ^ i.val) ∧ bor .u16 (x.val : Int) (2 ^ i.val) < 64) ∧ ∀ j : Fin 6, onT (2 ^ j.val) (bor .u16 (x.val : Int) (2 ^ i.val)) = (onT (2 ^ j.val) (x.val : Int) || decide (i.val = j.val)) := by decide +kernel
theorem or_ok {x : Int} (h : tOk x) (i : Nat) (hi : i < 6) : tOk (bor .u16 x (2 ^ i)) := by
  have := (or_all ⟨x.toNat, by have := h.1; have := h.2; omega⟩ ⟨i, hi⟩).1
  simp only [Int.toNat_of_nonneg h.1] at this
  exact this
theorem or_on {x : Int} (h : tOk x) (i j : Nat) (hi : i < 6) (hj : j < 6) : onT (2 ^ j) (bor .u16 x (2 ^ i)) = (onT (2 ^ j) x || decide (i = j)) := by
  have := (or_all ⟨x.toNat, by have := h.1; have := h.2; omega⟩ ⟨i, hi⟩).2 ⟨j, hj⟩
  simp only [Int.toNat_of_nonneg h.1] at this
  exact this
structure TagsAre (x : Int) (b1 b2 b8 b16 b32 : Bool) : Prop where
  ok : tOk x
  t1 : onT 1 x = b1
  t2 : onT 2 x = b2
  t8 : onT 8 x = b8
  t16 : onT 16 x = b16
  t32 : onT 32 x = b32
section
variable {x : Int} {b1 b2 b8 b16 b32 : Bool}
theorem TagsAre.zero : TagsAre 0 false false false false false := ⟨⟨by decide, by decide⟩, by decide, by decide, by decide, by decide, by decide⟩
theorem TagsAre.or1 (h : TagsAre x b1 b2 b8 b16 b32) : TagsAre (bor .u16 x 1) true b2 b8 b16 b32 := by
  have hh := fun j hj => or_on h.ok 0 j (by decide) hj
  exact ⟨or_ok h.ok 0 (by decide), (hh 0 (by decide)).trans (by simp), (hh 1 (by decide)).trans (by rw [show ((2 : Int) ^ 1) = 2 from rfl, h.t2]; simp), (hh 3 (by decide)).trans (by rw [show ((2 : Int) ^ 3) = 8 from rfl, h.t8]; simp), (hh 4 (by decide)).trans (by rw [show ((2 : Int) ^ 4) = 16 from rfl, h.t16]; simp), (hh 5 (by decide)).trans (by rw [show ((2 : Int) ^ 5) = 32 from rfl, h.t32]; simp)⟩
theorem TagsAre.or2 (h : TagsAre x b1 b2 b8 b16 b32) : TagsAre (bor .u16 x 2) b1 true b8 b16 b32 := by
  have hh := fun j hj => or_on h.ok 1 j (by decide) hj
  exact ⟨or_ok h.ok 1 (by decide), (hh 0 (by decide)).trans (by rw [show ((2 : Int) ^ 0) = 1 from rfl, h.t1]; simp), (hh 1 (by decide)).trans (by simp), (hh 3 (by decide)).trans (by rw [show ((2 : Int) ^ 3) = 8 from rfl, h.t8]; simp), (hh 4 (by decide)).trans (by rw [show ((2 : Int) ^ 4) = 16 from rfl, h.t16]; simp), (hh 5 (by decide)).trans (by rw [show ((2 : Int) ^ 5) = 32 from rfl, h.t32]; simp)⟩
theorem TagsAre.or4 (h : TagsAre x b1 b2 b8 b16 b32) : TagsAre (bor .u16 x 4) b1 b2 b8 b16 b32 := by
  have hh := fun j hj => or_on h.ok 2 j (by decide) hj
  exact ⟨or_ok h.ok 2 (by decide), (hh 0 (by decide)).trans (by rw [show ((2 : Int) ^ 0) = 1 from rfl, h.t1]; simp), (hh 1 (by decide)).trans (by rw [show ((2 : Int) ^ 1) = 2 from rfl, h.t2]; simp), (hh 3 (by decide)).trans (by rw [show ((2 : Int) ^ 3) = 8 from rfl, h.t8]; simp), (hh 4 (by decide)).trans (by rw [show ((2 : Int) ^ 4) = 16 from rfl, h.t16]; simp), (hh 5 (by decide)).trans (by rw [show ((2 : Int) ^ 5) = 32 from rfl, h.t32]; simp)⟩
theorem TagsAre.or8 (h : TagsAre x b1 b2 b8 b16 b32) : TagsAre (bor .u16 x 8) b1 b2 true b16 b32 := by
  have hh := fun j hj => or_on h.ok 3 j (by decide) hj
  exact ⟨or_ok h.ok 3 (by decide), (hh 0 (by decide)).trans (by rw [show ((2 : Int) ^ 0) = 1 from rfl, h.t1]; simp), (hh 1 (by decide)).trans (by rw [show ((2 : Int) ^ 1) = 2 from rfl, h.t2]; simp), (hh 3 (by decide)).trans (by simp), (hh 4 (by decide)).trans (by rw [show ((2 : Int) ^ 4) = 16 from rfl, h.t16]; simp), (hh 5 (by decide)).trans (by rw [show ((2 : Int) ^ 5) = 32 from rfl, h.t32]; simp)⟩
theorem TagsAre.or16 (h : TagsAre x b1 b2 b8 b16 b32) : TagsAre (bor .u16 x 16) b1 b2 b8 true b32 := by
  have hh := fun j hj => or_on h.ok 4 j (by decide) hj
  exact ⟨or_ok h.ok 4 (by decide), (hh 0 (by decide)).trans (by rw [show ((2 : Int) ^ 0) = 1 from rfl, h.t1]; simp), (hh 1 (by decide)).trans (by rw [show ((2 : Int) ^ 1) = 2 from rfl, h.t2]; simp), (hh 3 (by decide)).trans (by rw [show ((2 : Int) ^ 3) = 8 from rfl, h.t8]; simp), (hh 4 (by decide)).trans (by simp), (hh 5 (by decide)).trans (by rw [show ((2 : Int) ^ 5) = 32 from rfl, h.t32]; simp)⟩
theorem TagsAre.or32 (h : TagsAre x b1 b2 b8 b16 b32) : TagsAre (bor .u16 x 32) b1 b2 b8 b16 true := by
  have hh := fun j hj => or_on h.ok 5 j (by decide) hj
  exact ⟨or_ok h.ok 5 (by decide), (hh 0 (by decide)).trans (by rw [show ((2 : Int) ^ 0) = 1 from rfl, h.t1]; simp), (hh 1 (by decide)).trans (by rw [show ((2 : Int) ^ 1) = 2 from rfl, h.t2]; simp), (hh 3 (by decide)).trans (by rw [show ((2 : Int) ^ 3) = 8 from rfl, h.t8]; simp), (hh 4 (by decide)).trans (by rw [show ((2 : Int) ^ 4) = 16 from rfl, h.t16]; simp), (hh 5 (by decide)).trans (by simp)⟩
end
section
variable {c : Nat → Int} {B : Brd} {M : Mv} {D : Pd} {f t e r : Nat} {p : Int} {b1 b2 b8 b16 b32 : Bool}
noncomputable def ownC (c c' : Nat → Int) : Bool := attB c' (kingI c' (c 64)) (1 - c 64)
noncomputable def givC (c c' : Nat → Int) : Bool := attB c' (kingI c' (1 - c 64)) (c 64)
theorem tags_fin {c' : Nat → Int} (h64 : c 64 = 0 ∨ c 64 = 1) (hrep : RepB c' (afterB D B M)) (hbd : Bd c') (hk : ∀ b : Int, b = 0 ∨ b = 1 → ∃ k : Nat, KingAt c' b k) (hD : D.turn = c 64 + 1) (h2 : TagsAre (tg2 D B M) b1 b2 b8 b16 b32) : TagsAre (tg4 D B M) b1 b2 b8 (b16 || givC c c') (b32 || ownC c c') := by
  obtain ⟨k, k1⟩ := hk (c 64) h64
  obtain ⟨j, j1⟩ := hk (1 - c 64) (by omega)
  have e1 : inChk D (afterB D B M) = ownC c c' := by
    rw [inChk_iff hrep hbd h64 hD k1.1 k1.eq]; unfold ownC; rw [k1.eq]
  have e2 : inChk (otherD D) (afterB D B M) = givC c c' := by
    have ho : (otherD D).turn = (1 - c 64) + 1 := by
      show cOther D.turn = _
      rw [hD]; rcases h64 with h | h <;> rw [h] <;> rfl
    rw [inChk_iff hrep hbd (by omega) ho j1.1 j1.eq]; unfold givC; rw [j1.eq]; congr 1; omega
  have h3 : TagsAre (tg3 D B M) b1 b2 b8 b16 (b32 || ownC c c') := by
    unfold tg3; rw [e1]
    cases ownC c c'
    · simpa using h2
    · simpa using h2.or32
  unfold tg4; rw [e2]
  cases givC c c'
  · simpa using h3
  · simpa using h3.or16
structure MvN2 (c : Nat → Int) (f t : Nat) (p : Int) : Prop extends MvN c f t p where
  noep : kindOf (c f) = 6 → (t : Int) = c 66 → c t ≠ 0
  nohome : kindOf (c f) = 1 → f = 4 ∨ f = 60 → ¬ (t = 2 ∨ t = 6 ∨ t = 58 ∨ t = 62)
theorem isKing {n : Int} (h : 1 ≤ n ∧ n ≤ 12) : (n = 1 ∨ n = 7) ↔ kindOf n = 1 := by unfold kindOf; split <;> omega
theorem tg2_N (hr : RepB c B) (hi : InvC c) (h : MvN2 c f t p) (hD : D.ep = c 66) (h1 : M.s1 = f) (h2 : M.s2 = t) (h3 : TagsAre M.tags b1 b2 b8 b16 b32) : TagsAre (tg2 D B M) b1 b2 b8 b16 b32 := by
  obtain ⟨q1, q2, q3⟩ := tgt_in h.toMvB hi
  have hp : pieceAt B M.s1 = c f := by rw [h1]; exact pieceAt_rep hr hi.bd h.hf
  have t1 : TagsAre (tg1 D B M) b1 b2 b8 b16 b32 := by
    unfold tg1
    rw [hp, h2, occ_empty hr hi.bd h.ht, hD, kind_typ (by omega)]
    by_cases hc : c t = 0
    · rw [if_neg (by simp [hc]), if_neg]
      · exact h3
      · rintro ⟨a, b⟩; exact h.noep b a hc
    · rw [if_pos (by simp [hc])]; exact h3.or4
  unfold tg2
  rw [hp, h1, h2]
  by_cases hk : (c f = 1 ∧ (f : Int) = 4) ∨ (c f = 7 ∧ (f : Int) = 60)
  · rw [if_pos hk]
    have hh := h.nohome ((isKing q1).1 (by omega)) (by omega)
    rw [if_neg (by omega), if_neg (by omega)]; exact t1
  · rw [if_neg hk]; exact t1
theorem tg2_E (hr : RepB c B) (hi : InvC c) (h : MvE c f t e) (hD : D.ep = c 66) (h1 : M.s1 = f) (h2 : M.s2 = t) (h3 : TagsAre M.tags b1 b2 b8 b16 b32) : TagsAre (tg2 D B M) b1 b2 true b16 b32 := by
  obtain ⟨q1, q2, q3⟩ := tgt_in h.toMvB hi
  have hp : pieceAt B M.s1 = c f := by rw [h1]; exact pieceAt_rep hr hi.bd h.hf
  have hpw := h.pawn
  have t1 : TagsAre (tg1 D B M) b1 b2 true b16 b32 := by
    unfold tg1
    rw [hp, h2, occ_empty hr hi.bd h.ht, hD, kind_typ (by omega)]
    rw [if_neg (by simp [h.empty]), if_pos ⟨h.ep, hpw⟩]; exact h3.or8
  unfold tg2
  rw [hp, h1, h2, if_neg]
  · exact t1
  · have := (isKing q1).1
    intro hk; have := this (by omega); omega
theorem tg2_K (hr : RepB c B) (hi : InvC c) (h : MvK c r) (hD : D.ep = c 66) (h1 : M.s1 = casF r) (h2 : M.s2 = casT r) (h3 : TagsAre M.tags (decide (r % 2 = 0)) (decide (r % 2 = 1)) b8 b16 b32) : TagsAre (tg2 D B M) (decide (r % 2 = 0)) (decide (r % 2 = 1)) b8 b16 b32 := by
  obtain ⟨c1, c2, c3, c4, c5, c6, c7, c8, c9, c10, c11, c12, c13⟩ := cas_facts h.hr
  have hB := h.toB hi
  obtain ⟨q1, q2, q3⟩ := tgt_in hB hi
  have hp : pieceAt B M.s1 = c (casF r) := by rw [h1]; exact pieceAt_rep hr hi.bd c1
  have t1 : TagsAre (tg1 D B M) (decide (r % 2 = 0)) (decide (r % 2 = 1)) b8 b16 b32 := by
    unfold tg1
    rw [hp, h2, occ_empty hr hi.bd c2, hD, kind_typ (by omega)]
    rw [if_neg (by simp [h.to]), if_neg]
    · exact h3
    · rintro ⟨_, b⟩; rw [h.king, kind_king q2] at b; cases b
  have hki := h.king; have hsd := h.side
  unfold tg2
  rw [hp, h1, h2]
  have hr4 : r = 0 ∨ r = 1 ∨ r = 2 ∨ r = 3 := by have := h.hr; omega
  rcases hr4 with rfl | rfl | rfl | rfl
  · have h64 : c 64 = 0 := hsd
    rw [hki, h64, if_pos (by decide), if_neg (by decide), if_pos (by decide)]; exact t1.or1
  · have h64 : c 64 = 0 := hsd
    rw [hki, h64, if_pos (by decide), if_pos (by decide)]; exact t1.or2
  · have h64 : c 64 = 1 := hsd
    rw [hki, h64, if_pos (by decide), if_neg (by decide), if_pos (by decide)]; exact t1.or1
  · have h64 : c 64 = 1 := hsd
    rw [hki, h64, if_pos (by decide), if_pos (by decide)]; exact t1.or2
theorem king_ex {c' : Nat → Int} (hi : InvC c) (hk : ∀ b : Int, b = 0 ∨ b = 1 → ∀ k : Nat, KingAt c b k → KingAt c' b (if f = k then t else k)) : ∀ b : Int, b = 0 ∨ b = 1 → ∃ k : Nat, KingAt c' b k := fun b hb => by
  obtain ⟨k, h⟩ := hi.king b hb
  exact ⟨_, hk b hb k h⟩
theorem madeC_Bd (h : MvB c f t) (hi : InvC c) (hp : 0 ≤ p ∧ p ≤ 5) : Bd (madeC c f t p) := madeC_bd (by have := h.hf; omega) hi.bd hi.turn (by omega)
theorem all_N (hr : RepB c B) (hi : InvC c) (h : MvN2 c f t p) (hT : D.turn = c 64 + 1) (hD : D.ep = c 66) (h1 : M.s1 = f) (h2 : M.s2 = t) (hp : M.promo = p) (h3 : TagsAre M.tags false false false b16 b32) :
    TagsAre (tg4 D B M) false false false (b16 || givC c (madeC c f t p)) (b32 || ownC c (madeC c f t p)) ∧ ∀ x : Int, TagsAre x false false false (b16 || givC c (madeC c f t p)) (b32 || ownC c (madeC c f t p)) → RepB (madeC c f t p) (updB B { M with tags := x }) := by
  have h64 : c 64 = 0 ∨ c 64 = 1 := by have := hi.turn; omega
  have q := tg2_N hr hi h hD h1 h2 h3
  have hpp : 0 ≤ p ∧ p ≤ 5 := by rcases h.promo with hq | hq <;> omega
  refine ⟨tags_fin h64 (updB_N hr hi h.toMvN h1 h2 hp q.t8 q.t1 q.t2) (madeC_Bd h.toMvB hi hpp) (king_ex hi fun b hb k hk => kings_N h.toMvN hi hb hk) hT q, fun x hx => ?_⟩
  exact updB_N hr hi h.toMvN h1 h2 hp hx.t8 hx.t1 hx.t2
theorem all_E (hr : RepB c B) (hi : InvC c) (h : MvE c f t e) (hT : D.turn = c 64 + 1) (hD : D.ep = c 66) (h1 : M.s1 = f) (h2 : M.s2 = t) (hp : M.promo = 0) (h3 : TagsAre M.tags false false false b16 b32) :
    TagsAre (tg4 D B M) false false true (b16 || givC c (madeC c f t 0)) (b32 || ownC c (madeC c f t 0)) ∧ ∀ x : Int, TagsAre x false false true (b16 || givC c (madeC c f t 0)) (b32 || ownC c (madeC c f t 0)) → RepB (madeC c f t 0) (updB B { M with tags := x }) := by
  have h64 : c 64 = 0 ∨ c 64 = 1 := by have := hi.turn; omega
  have q := tg2_E hr hi h hD h1 h2 h3
  refine ⟨tags_fin h64 (updB_E hr hi h h1 h2 hp q.t8 q.t1 q.t2) (madeC_Bd h.toMvB hi (by decide)) (king_ex hi fun b hb k hk => kings_E h hi hb hk) hT q, fun x hx => ?_⟩
  exact updB_E hr hi h h1 h2 hp hx.t8 hx.t1 hx.t2
theorem all_K (hr : RepB c B) (hi : InvC c) (h : MvK c r) (hT : D.turn = c 64 + 1) (hD : D.ep = c 66) (h1 : M.s1 = casF r) (h2 : M.s2 = casT r) (hp : M.promo = 0) (h3 : TagsAre M.tags (decide (r % 2 = 0)) (decide (r % 2 = 1)) false b16 b32) :
    TagsAre (tg4 D B M) (decide (r % 2 = 0)) (decide (r % 2 = 1)) false (b16 || givC c (madeC c (casF r) (casT r) 0)) (b32 || ownC c (madeC c (casF r) (casT r) 0)) ∧ ∀ x : Int, TagsAre x (decide (r % 2 = 0)) (decide (r % 2 = 1)) false (b16 || givC c (madeC c (casF r) (casT r) 0)) (b32 || ownC c (madeC c (casF r) (casT r) 0)) → RepB (madeC c (casF r) (casT r) 0) (updB B { M with tags := x }) := by
  have h64 : c 64 = 0 ∨ c 64 = 1 := by have := hi.turn; omega
  have q := tg2_K hr hi h hD h1 h2 h3
  refine ⟨tags_fin h64 (updB_K hr hi h h1 h2 hp q.t8 q.t1 q.t2) (madeC_Bd (h.toB hi) hi (by decide)) (king_ex hi fun b hb k hk => kings_K h hi hb hk) hT q, fun x hx => ?_⟩
  exact updB_K hr hi h h1 h2 hp hx.t8 hx.t1 hx.t2
end
end Go.Tb
end
