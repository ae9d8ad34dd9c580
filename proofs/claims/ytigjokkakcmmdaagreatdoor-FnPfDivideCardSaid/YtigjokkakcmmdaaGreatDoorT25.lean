/-
  A part of the proof (my own): of the texts that the claim's last text rests on: parts K9, L1, L2, P15, P16, P17.
-/
import Derived.Test.YtigjokkakcmmdaaGreatDoorT23
import Derived.Test.YtigjokkakcmmdaaGreatDoorT24
import Derived.Test.YtigjokkakcmmdaaGreatDoorT20
import Derived.Test.YtigjokkakcmmdaaGreatDoorT22
set_option linter.unusedSimpArgs false
set_option linter.unusedVariables false
section
namespace Go.Tb
open Go Go.Proofs
variable {z : Nat × Nat}
set_option maxRecDepth 20000
theorem src_vs {X : Cx} {L : List AO} {j c N tx : Nat} {l : List Mv} {T : TypeId} (hj : L[j]? = some (.cells (vsL (padV N l)) T)) (hs : isSl X.P tx = true) : srcM X.P (X.pad ++ L) 11 tx (.slice (some ⟨100 + j, 0, none⟩) l.length c) = some (l.length, vsL l) := by
  refine src_tl (T := T) (tl := vsL (List.replicate (N - l.length) zMv)) ?_ hs (vsL_len l)
  rw [hj, padV, vsL_app]
theorem vsL_map (σ : Nat → Nat) (l : List Mv) : (vsL l).map (rl σ) = vsL l := pl_map (vsL_pl l) σ
def allL (l : List UInt8) (D : Pd) (B : Brd) : List Mv := stdL D B ++ csL l D B 4
theorem allL_len (l : List UInt8) (D : Pd) (B : Brd) : (allL l D B).length = (stdL D B).length + (csL l D B 4).length := by simp [allL]
theorem allL_vs (l : List UInt8) (D : Pd) (B : Brd) : vsL (allL l D B) = vsL (stdL D B) ++ vsL (csL l D B 4) := vsL_app _ _
attribute [local irreducible] stdL csL in
set_option maxHeartbeats 8000000 in
theorem calc_ok (l : List UInt8) (D : Pd) (B : Brd) (hcl : l.length ≤ 1000) (hcr : D.cr = byt l) (hl : (stdL D B).length ≤ 218) (he : -1 ≤ D.ep ∧ D.ep ≤ 63) (ht : D.turn = 1 ∨ D.turn = 2) (hw : -1 ≤ B.wks ∧ B.wks ≤ 63) (hb : -1 ≤ B.bks ∧ B.bks ≤ 63) :
    FnM (Tz z) 42 [.agg #[], .pointer (some ⟨100, 0, none⟩), .bool false] [.cells (psL 101 nilS D) 82, .cells (boardL B) 110] (fun p : List Value × Nat => slOk 11 (allL l D B).length (vsL (allL l D B)) (some p)) (fun p => .slice (some ⟨102, 0, none⟩) (allL l D B).length p.2) (fun p => [.cells (psL 101 nilS D) 82, .cells (boardL B) 110, .cells (vsL (allL l D B) ++ p.1) 60]) := by
  refine ⟨?_, pb_wl D B, fun _ _ o ho => ?_, CallM.shiftX (start [0, 1, 2, 6, 7] Tryz.func42 rfl (by decide) rfl (by kernel_rfl) (by simp [Tryz.f42]) ?_)⟩
  · intro u hu
    simp only [List.mem_cons, List.not_mem_nil, or_false] at hu
    rcases hu with rfl | rfl | rfl
    · exact fun _ _ _ => rfl
    · exact WF_ptrN (by simp)
    · exact wf_bool
  · simp at ho; subst ho; rfl
  simp only [Tryz.f42]
  have h4 := csL_b4 (l := l) (D := D) (B := B)
  have hal := allL_len l D B
  repeat' (first | ((with_reducible refine call_fr (std_ok D B hl he ht hw hb) [0, 1] ?_ ?_ ?_ ?_); (· kernel_rfl); (· exact ⟨by kernel_rfl, by kernel_rfl, trivial⟩); (· kernel_rfl); intro xx hx; simp -implicitDefEqProofs only [fixL_eq, setAll_cons, setAll_nil, setAll_nil2, List.map_cons, List.map_nil, rn_cells, rn_ro, rn_any, rn_obj, boardL_map, mvL_map, psL_map, map_ints, List.set_cons_zero, List.set_cons_succ, List.length_cons, List.length_nil, List.drop_succ_cons, List.drop_zero, List.drop_nil, List.append_nil, List.nil_append, List.cons_append, rl_tuple, rl_int, rl_bool, rl_string, rl_ptr, rl_ptr0, rl_slice, rl_slice0, rl_agg, List.map_toArray, Array.map_empty, List.length_append, Nat.zero_add, Nat.reduceAdd, sig, Nat.reduceLT, Nat.reduceSub, ↓reduceIte, List.getElem?_cons_zero, List.getElem?_cons_succ, List.getElem?_nil, Nat.reduceAdd, Nat.add_zero, Nat.sub_self]) | ((with_reducible refine call_fr (castle_ok D B l hcl hcr ht hw hb) [0, 1] ?_ ?_ ?_ ?_); (· kernel_rfl); (· exact ⟨by kernel_rfl, by kernel_rfl, trivial⟩); (· kernel_rfl); intro xx hx; simp -implicitDefEqProofs only [fixL_eq, setAll_cons, setAll_nil, setAll_nil2, List.map_cons, List.map_nil, rn_cells, rn_ro, rn_any, rn_obj, boardL_map, mvL_map, psL_map, map_ints, List.set_cons_zero, List.set_cons_succ, List.length_cons, List.length_nil, List.drop_succ_cons, List.drop_zero, List.drop_nil, List.append_nil, List.nil_append, List.cons_append, rl_tuple, rl_int, rl_bool, rl_string, rl_ptr, rl_ptr0, rl_slice, rl_slice0, rl_agg, List.map_toArray, Array.map_empty, List.length_append, Nat.zero_add, Nat.reduceAdd, sig, Nat.reduceLT, Nat.reduceSub, ↓reduceIte, List.getElem?_cons_zero, List.getElem?_cons_succ, List.getElem?_nil, Nat.reduceAdd, Nat.add_zero, Nat.sub_self]) | ((with_reducible refine app_k ?_); refine app_holdG (X := Tz z) (i := 3) (e := 60) (sz := 11) (b := 96) (m := (csL l D B 4).length) (h := some ([], (stdL D B).length)) (con := vsL (stdL D B)) (n := (stdL D B).length) (zc := mvL zMv) (news := vsL (csL l D B 4)) (by kernel_rfl) (by kernel_rfl) rfl (mvL_pl _) (src_vs (j := 4) (N := 2) rfl (by kernel_rfl)) (vsL_one' _) (vsL_len _) (by simp [slB]) ⟨vsL_len _, by rw [List.append_nil]; exact vsL_len _, Nat.le_refl _, by simp⟩ (by omega) (by omega) (fun h => by cases h) (fun tl cap hcap => ⟨?_, ?_⟩)) | with_reducible refine seq_k fun K hK => ?_ | (with_reducible refine hK _ _ ?_; clear hK) | ((with_reducible first | refine gd_dec ?_ ?_ | refine gd_ndec ?_ ?_ | refine qC_dec ?_ ?_ | refine qC_ndec ?_ ?_ | refine piC_dec ?_ ?_ | refine piC_ndec ?_ ?_ | refine zC_dec ?_ ?_ | refine zC_ndec ?_ ?_ | refine zD_dec ?_ ?_ | refine yC_dec ?_ ?_ | refine yC_ndec ?_ ?_ | refine if_dec ?_ ?_ | refine if_ndec ?_ ?_) <;> intro hh) | simp -implicitDefEqProofs (disch := first | omega | assumption) only [go_sem, ↓reduceIte, Nat.reduceEqDiff, Int.reduceEq, Nat.reduceAdd, Nat.reduceSub, Nat.reduceMul, Nat.mul_one, Nat.one_mul, List.length_nil, List.length_cons, List.nil_append, List.cons_append, List.length_append, List.set_cons_zero, List.set_cons_succ, Nat.zero_add, Nat.sub_zero, Option.isNone_none, Option.isNone_some, Int.toNat_natCast, Nat.add_sub_cancel_left, Bool.not_true, Bool.not_false, BitVec.reduceOfInt, Int.reduceToNat, vsL_map] | ((with_reducible first | refine gd_bool ?_ ?_ | refine if_bool ?_ ?_ | refine qC_bool ?_ ?_ | refine piC_bool ?_ ?_ | refine zC_bool ?_ ?_ | refine zD_bool ?_ ?_ | refine yC_bool ?_ ?_) <;> intro hh) | clear hK)
  all_goals first
    | (have e : vsL (stdL D B) ++ vsL (csL l D B 4) = vsL (allL l D B) := (allL_vs l D B).symm
       rw [e, ← hal] at hcap
       rw [← hal, e]
       refine ⟨(tl, cap), hcap, VS.mvx 2 3 (by decide) (by simp) (by simp) (by simp) (by simp) ?_ (by simp [eqX, slB]) ?_ ?_⟩
       · simp
       · exact ⟨⟨by simp [rnO, psL_map, mvS], psL_wf (by simp) (Pl.nilS.wf _)⟩, plO _ (boardL_pl B), plO _ (pl_app (vsL_pl _) hcap.2.2.2), trivial⟩
       · simp [mvF, Fr.get, slH, mvS, wf_int, wf_bool, wf_sl, wf_pt, wf_nils, wf_str]; done)
    | (have e : vsL (stdL D B) ++ vsL (csL l D B 4) = vsL (allL l D B) := (allL_vs l D B).symm
       rw [e, ← hal] at hcap
       rw [← hal, e]
       refine ⟨(tl, cap), hcap, VS.mvx 2 5 (by decide) (by simp) (by simp) (by simp) (by simp) ?_ (by simp [eqX, slB]) ?_ ?_⟩
       · simp
       · exact ⟨⟨by simp [rnO, psL_map, mvS], psL_wf (by simp) (Pl.nilS.wf _)⟩, plO _ (boardL_pl B), plO _ (pl_app (vsL_pl _) hcap.2.2.2), trivial⟩
       · simp [mvF, Fr.get, slH, mvS, wf_int, wf_bool, wf_sl, wf_pt, wf_nils, wf_str]; done)
end Go.Tb
end
section
namespace Go.Tb
open Go Go.Proofs
variable {z : Nat × Nat}
set_option maxRecDepth 20000
theorem slOk_grow {l : List Mv} {cap : Nat} (h : l.length ≤ cap) : slOk 11 l.length (vsL l) (some (zrep (cap - l.length) (mvL zMv), cap)) := by
  have hz : (zrep (cap - l.length) (mvL zMv)).length = (cap - l.length) * 11 := by simp [zrep, mvL_len]
  refine ⟨vsL_len l, ?_, h, zrep_pl (mvL_pl _) _⟩
  rw [List.length_append, vsL_len, hz, ← Nat.add_mul]; congr 1; omega
abbrev VX := (List Value × Nat) × Hold
def vxOk (l : List Mv) (x : VX) : Prop := slOk 11 l.length (vsL l) (some x.1) ∧ slOk 11 l.length (vsL l) x.2
def vxM (l : List Mv) (D : Pd) (B : Brd) (x : VX) : List AO := [.cells (psL 101 (.slice (some ⟨102, 0, none⟩) l.length x.1.2) D) 82, .cells (boardL B) 110, .cells (vsL l ++ x.1.1) 60] ++ slM 60 (vsL l) x.2
attribute [local irreducible] stdL csL allL in
set_option maxHeartbeats 8000000 in
theorem valid_okM (l : List UInt8) (D : Pd) (B : Brd) (hcl : l.length ≤ 1000) (hcr : D.cr = byt l) (hl : (stdL D B).length ≤ 218) (he : -1 ≤ D.ep ∧ D.ep ≤ 63) (ht : D.turn = 1 ∨ D.turn = 2) (hw : -1 ≤ B.wks ∧ B.wks ≤ 63) (hb : -1 ≤ B.bks ∧ B.bks ≤ 63) :
    FnM (Tz z) 23 [.pointer (some ⟨100, 0, none⟩)] [.cells (psL 101 nilS D) 82, .cells (boardL B) 110] (vxOk (allL l D B)) (fun x => slH 103 (allL l D B).length x.2) (vxM (allL l D B) D B) := by
  have h4 := csL_b4 (l := l) (D := D) (B := B)
  have hal := allL_len l D B
  refine ⟨?_, pb_wl D B, fun x _ o ho => ?_, start [0, 2, 7] Tryz.func23 rfl (by decide) rfl (by kernel_rfl) (by simp [Tryz.f23]) ?_⟩
  · intro u hu
    simp only [List.mem_cons, List.not_mem_nil, or_false] at hu
    subst hu
    exact WF_ptrN (by simp)
  · obtain ⟨⟨tl, cap⟩, h⟩ := x
    cases h with
    | none => simp [vxM, slM] at ho; subst ho; rfl
    | some p => simp [vxM, slM] at ho; rcases ho with rfl | rfl <;> rfl
  simp only [Tryz.f23]
  repeat' (first | ((with_reducible refine call_fr (calc_ok l D B hcl hcr hl he ht hw hb) [0, 1] ?_ ?_ ?_ ?_); (· kernel_rfl); (· exact ⟨by kernel_rfl, by kernel_rfl, trivial⟩); (· kernel_rfl); intro xx hx; (have hpm := fun σ : Nat → Nat => pl_map (pl_app (vsL_pl (allL l D B)) hx.2.2.2) σ); simp -implicitDefEqProofs only [fixL_eq, setAll_cons, setAll_nil, setAll_nil2, List.map_cons, List.map_nil, rn_cells, rn_ro, rn_any, rn_obj, boardL_map, mvL_map, psL_map, map_ints, List.set_cons_zero, List.set_cons_succ, List.length_cons, List.length_nil, List.drop_succ_cons, List.drop_zero, List.drop_nil, List.append_nil, List.nil_append, List.cons_append, rl_tuple, rl_int, rl_bool, rl_string, rl_ptr, rl_ptr0, rl_slice, rl_slice0, rl_agg, List.map_toArray, Array.map_empty, List.length_append, Nat.zero_add, Nat.reduceAdd, sig, Nat.reduceLT, Nat.reduceSub, ↓reduceIte, List.getElem?_cons_zero, List.getElem?_cons_succ, List.getElem?_nil, Nat.reduceAdd, Nat.add_zero, Nat.sub_self]; simp only [hpm]; clear hpm) | ((with_reducible refine app_k ?_); refine app_nil (X := Tz z) (e := 60) (sz := 11) (b := 96) (m := (allL l D B).length) (zc := mvL zMv) (news := vsL (allL l D B)) (by kernel_rfl) (by kernel_rfl) rfl (src_tl (j := 2) (tl := xx.1) rfl (by kernel_rfl) (vsL_len _)) (vsL_one' _) (vsL_len _) (fun hn => ?_) (fun hn => ⟨by omega, by omega, fun c' hc' => ?_⟩)) | with_reducible refine seq_k fun K hK => ?_ | (with_reducible refine hK _ _ ?_; clear hK) | ((with_reducible first | refine gd_dec ?_ ?_ | refine gd_ndec ?_ ?_ | refine qC_dec ?_ ?_ | refine qC_ndec ?_ ?_ | refine piC_dec ?_ ?_ | refine piC_ndec ?_ ?_ | refine zC_dec ?_ ?_ | refine zC_ndec ?_ ?_ | refine zD_dec ?_ ?_ | refine yC_dec ?_ ?_ | refine yC_ndec ?_ ?_ | refine if_dec ?_ ?_ | refine if_ndec ?_ ?_) <;> intro hh) | simp -implicitDefEqProofs (disch := first | omega | assumption) only [go_sem, ↓reduceIte, Nat.reduceEqDiff, Int.reduceEq, Nat.reduceAdd, Nat.reduceSub, Nat.reduceMul, Nat.mul_one, Nat.one_mul, List.length_nil, List.length_cons, List.nil_append, List.cons_append, List.length_append, List.set_cons_zero, List.set_cons_succ, Nat.zero_add, Nat.sub_zero, Option.isNone_none, Option.isNone_some, Int.toNat_natCast, Nat.add_sub_cancel_left, Bool.not_true, Bool.not_false, BitVec.reduceOfInt, Int.reduceToNat, vsL_map] | ((with_reducible first | refine gd_bool ?_ ?_ | refine if_bool ?_ ?_ | refine qC_bool ?_ ?_ | refine piC_bool ?_ ?_ | refine zC_bool ?_ ?_ | refine zD_bool ?_ ?_ | refine yC_bool ?_ ?_) <;> intro hh) | clear hK)
  · refine ⟨(xx, none), ⟨hx, hn, ?_⟩, rfl, rfl⟩
    have e := vsL_len (allL l D B)
    rw [hn] at e
    exact List.length_eq_zero_iff.1 e
  · exact ⟨(xx, some (zrep (c' - (allL l D B).length) (mvL zMv), c')), ⟨hx, slOk_grow hc'⟩, rfl, rfl⟩
end Go.Tb
end
section
namespace Go.Tb
open Go Go.Proofs
variable {z : Nat × Nat}
set_option maxRecDepth 20000
abbrev PSt := List UInt8 × Pd × Brd
def nxt (s : PSt) (m : Mv) : PSt := (crUp s.1 s.2.2 m, updD s.1 s.2.1 m s.2.2, updB s.2.2 m)
def allS (s : PSt) : List Mv := allL s.1 s.2.1 s.2.2
def sumK (f : Nat → Int) : Nat → Int
  | 0 => 0
  | k + 1 => sumK f k + f k
def pfN : Nat → PSt → Int
  | 0, _ => 1
  | d + 1, s => sumK (fun i => pfN d (nxt s (vAt (allS s) i))) (allS s).length
theorem pfN_0 (s : PSt) : pfN 0 s = 1 := rfl
theorem pfN_S (d : Nat) (s : PSt) : pfN (d + 1) s = sumK (fun i => pfN d (nxt s (vAt (allS s) i))) (allS s).length := rfl
structure StOk (s : PSt) : Prop where
  len : s.1.length ≤ 1000
  cr : s.2.1.cr = byt s.1
  std : (stdL s.2.1 s.2.2).length ≤ 218
  ep : -1 ≤ s.2.1.ep ∧ s.2.1.ep ≤ 63
  turn : s.2.1.turn = 1 ∨ s.2.1.turn = 2
  wk : -1 ≤ s.2.2.wks ∧ s.2.2.wks ≤ 63
  bk : -1 ≤ s.2.2.bks ∧ s.2.2.bks ≤ 63
  half : 0 ≤ s.2.1.half ∧ s.2.1.half ≤ 1000000
  mc : 0 ≤ s.2.1.mc ∧ s.2.1.mc ≤ 1000000
structure MvOk (B : Brd) (m : Mv) : Prop where
  s1 : 0 ≤ m.s1 ∧ m.s1 ≤ 63
  s2 : 0 ≤ m.s2 ∧ m.s2 ≤ 63
  promo : ¬ m.promo = 0 → (1 ≤ m.promo ∧ m.promo ≤ 6) ∧ 1 ≤ pieceAt B m.s1
def PfOk : Nat → PSt → Prop
  | 0, _ => True
  | d + 1, s => StOk s ∧ ∀ m ∈ allS s, MvOk s.2.2 m ∧ PfOk d (nxt s m)
theorem allS_len {s : PSt} (h : StOk s) : (allS s).length ≤ 220 := by
  have h1 := allL_len s.1 s.2.1 s.2.2
  have h2 := csL_b4 (l := s.1) (D := s.2.1) (B := s.2.2)
  have h3 := h.std
  unfold allS; omega
theorem pow220 (d : Nat) : (0 : Int) ≤ 220 ^ d := Int.pow_nonneg (by decide)
theorem sumK_bd2 {f : Nat → Int} {M : Int} : ∀ k : Nat, (∀ i, i < k → 0 ≤ f i ∧ f i ≤ M) → 0 ≤ sumK f k ∧ sumK f k ≤ k * M
  | 0, _ => by simp [sumK]
  | k + 1, h => by
    obtain ⟨a, b⟩ := sumK_bd2 k fun i hi => h i (by omega)
    obtain ⟨e, f⟩ := h k (by omega)
    have : ((k + 1 : Nat) : Int) * M = k * M + M := by rw [Int.natCast_add, Int.add_mul]; simp
    rw [sumK, this]; omega
theorem pfN_bd : ∀ (d : Nat) (s : PSt), PfOk d s → 0 ≤ pfN d s ∧ pfN d s ≤ 220 ^ d
  | 0, s, _ => by simp [pfN]
  | d + 1, s, h => by
    rw [pfN_S]
    obtain ⟨a, b⟩ := sumK_bd2 (f := fun i => pfN d (nxt s (vAt (allS s) i))) (M := 220 ^ d) (allS s).length fun i hi => pfN_bd d _ (h.2 _ (vAt_mem hi)).2
    refine ⟨a, Int.le_trans b ?_⟩
    rw [Int.pow_succ, Int.mul_comm]
    exact Int.mul_le_mul_of_nonneg_left (by have := allS_len h.1; omega) (pow220 d)
theorem VS.forget {X : Cx} {n0 : Nat} {fr fr' : Fr} {L L' : List AO} (hl : L'.length ≤ L.length) (hn : n0 ≤ L'.length) (hlow : ∀ (i : Nat) (o : AO), i < n0 → L[i]? = some o → o.wr = false → L'[i]? = some o) (h : ∀ (i : Nat) (o : AO), L'[i]? = some o → o = .any ∨ L[i]? = some o)
    (hw : ∀ o ∈ L', o.wf (100 + L'.length)) (hf : ∀ t v, fr'.get t = some v → fr.get t = some v ∧ WF (100 + L'.length) v) : VS X n0 (fr, L) (fr', L') := by
  have hg : ∀ (i : Nat) (o : AO), L'[i]? = some o → o ≠ .any → (X.pad ++ L)[100 + i]? = some o := fun i o ho hne => by
    rw [get_own]
    rcases h i o ho with e | e
    · exact absurd e hne
    · exact e
  refine VS.rename (fun i => i) (fun _ _ => rfl) hlow hn (fun i hi => by simp; omega) (fun i j o h _ hj e => e) (fun i c T h => ?_) (fun i b c h => ?_) (fun i o h => hg i _ h (by simp)) (fun t y hy => ?_)
  · rw [map_rl_id]; exact ⟨hg i _ h (by simp), hw _ (List.mem_of_getElem? h)⟩
  · rw [map_rl_id]; exact ⟨hg i _ h (by simp), hw _ (List.mem_of_getElem? h)⟩
  · rw [rl_id]; exact hf t y hy
theorem VS.any2 {X : Cx} {v : Value} {a b : AO} {G : List AO} (ha : a.wr = true) (hb : b.wr = true) (hv : Pl v) : VS X 2 ([(0, v)], a :: b :: G) ([(0, v)], [.any, .any]) := by
  refine VS.forget (by simp) (by simp) (fun i o hi h hw => ?_) (fun i o h => ?_) (fun o ho => ?_) (fun t y hy => ?_)
  · rcases i with _ | _ | i
    · simp at h; subst h; rw [ha] at hw; cases hw
    · simp at h; subst h; rw [hb] at hw; cases hw
    · omega
  · rcases i with _ | _ | i <;> simp at h <;> exact .inl h.symm
  · simp at ho; subst ho; trivial
  · simp only [Fr.get] at hy ⊢
    split at hy
    · simp only [Option.some.injEq] at hy; subst hy; rw [if_pos (by assumption)]; exact ⟨rfl, hv.wf _⟩
    · cases hy
end Go.Tb
end
section
namespace Go.Tb
open Go Go.Proofs
set_option maxRecDepth 20000
attribute [local irreducible] tg4 madeC updB attB inChk
structure RepS (c : Nat → Int) (s : PSt) : Prop where
  d : RepD c s.2.1 s.2.2
  chk : s.2.1.chk = attB c (kingI c (c 64)) (1 - c 64)
  can : ∀ r : Nat, r < 4 → canB s.1 (((r / 2 : Nat) : Int) + 1) (((r % 2 : Nat) : Int) + 1) = decide (bitI (c 65) r = 1)
  cr : s.2.1.cr = byt s.1
  len : s.1.length ≤ 1000
section
variable {c : Nat → Int} {r : Nat} {B : Brd} {D : Pd} {s : PSt}
theorem right_bit (h : r < 4) : bitI (rightsN c 4) r = 1 ↔ rightB c r = true := by
  simp only [rightsN]
  have : r = 0 ∨ r = 1 ∨ r = 2 ∨ r = 3 := by omega
  cases h0 : rightB c 0 <;> cases h1 : rightB c 1 <;> cases h2 : rightB c 2 <;> cases h3 : rightB c 3 <;> rcases this with rfl | rfl | rfl | rfl <;> simp [*, bitI]
theorem right_at (hi : InvC c) (h : r < 4) (hb : bitI (c 65) r = 1) : c (casF r) = 1 + 6 * ((r / 2 : Nat) : Int) ∧ c (casR r) = 3 + 6 * ((r / 2 : Nat) : Int) := by
  rw [← hi.rights, right_bit h] at hb
  unfold rightB at hb
  obtain ⟨e1, e2, _⟩ := home_nat h
  rw [e1, e2, Int.toNat_natCast, Int.toNat_natCast, Bool.and_eq_true, Bool.and_eq_true, decide_eq_true_eq, decide_eq_true_eq, decide_eq_true_eq] at hb
  exact ⟨by rw [hb.1.2]; omega, by rw [hb.2]; omega⟩
theorem em_iff (hr : RepB c B) (hi : InvC c) (em : BitVec 64) : decide (~~~B.e &&& em = 0#64) = true ↔ ∀ u : Nat, u < 64 → occB em u = true → c u = 0 := by
  rw [decide_eq_true_eq, z_iff]
  constructor
  · intro h u hu he
    have := h u hu
    rw [occ_and, occ_full hr hi.bd hu, he, Bool.and_true, decide_eq_false_iff_not] at this
    exact Classical.byContradiction fun e => this e
  · intro h u hu
    rw [occ_and, occ_full hr hi.bd hu]
    cases he : occB em u
    · simp
    · rw [h u hu he]; simp
theorem any2_iff (hr : RepB c B) (hi : InvC c) {a b : Nat} (ha : a < 64) (hb : b < 64) (ht : D.turn = c 64 + 1) : (!anyAtt B D.turn [(a : Int), (b : Int)]) = true ↔ attB c a (1 - c 64) = false ∧ attB c b (1 - c 64) = false := by
  have h64 := hi.turn
  have e : anyAtt B D.turn [(a : Int), (b : Int)] = (attS B D.turn a || attS B D.turn b) := by
    unfold anyAtt
    simp [i8C, List.range_succ]
  rw [e, attS_iff hr hi.bd (by omega) ha, attS_iff hr hi.bd (by omega) hb, ht, show 2 - (c 64 + 1) = 1 - c 64 by omega, Bool.not_eq_true', Bool.or_eq_false_iff]
def casB (r : Nat) (j : Nat) : Prop := if r = 0 then j = 5 ∨ j = 6 else if r = 1 then j = 1 ∨ j = 2 ∨ j = 3 else if r = 2 then j = 61 ∨ j = 62 else j = 57 ∨ j = 58 ∨ j = 59
theorem casB_iff (h : r < 4) (j : Nat) : btw (homeK r) (homeR r) j ↔ casB r j := by
  obtain ⟨e1, e2, _⟩ := home_nat h
  rw [e1, e2]
  unfold btw casB
  have : r = 0 ∨ r = 1 ∨ r = 2 ∨ r = 3 := by omega
  rcases this with rfl | rfl | rfl | rfl
  · simp only [show casF 0 = 4 from rfl, show casR 0 = 7 from rfl, ↓reduceIte]; omega
  · simp only [show casF 1 = 4 from rfl, show casR 1 = 0 from rfl, ↓reduceIte, Nat.reduceEqDiff, Nat.succ_ne_self]; omega
  · simp only [show casF 2 = 60 from rfl, show casR 2 = 63 from rfl, ↓reduceIte, Nat.reduceEqDiff]; omega
  · simp only [show casF 3 = 60 from rfl, show casR 3 = 56 from rfl, ↓reduceIte, Nat.reduceEqDiff]; omega
structure CasOk (c : Nat → Int) (r : Nat) : Prop where
  side : c 64 = ((r / 2 : Nat) : Int)
  bit : bitI (c 65) r = 1
  free : ∀ j : Nat, casB r j → c j = 0
  k0 : attB c (casF r) (1 - c 64) = false
  k1 : attB c (casM r) (1 - c 64) = false
  k2 : attB c (casT r) (1 - c 64) = false
theorem CasOk.mv (h : CasOk c r) (hi : InvC c) (hr : r < 4) : MvK2 c r := by
  obtain ⟨a1, a2⟩ := right_at hi hr h.bit
  refine ⟨⟨hr, h.side, by rw [a1, h.side], by rw [a2, h.side], h.free _ ?_, h.free _ ?_⟩, fun j hj => h.free j ((casB_iff hr j).1 hj)⟩
  · have : r = 0 ∨ r = 1 ∨ r = 2 ∨ r = 3 := by omega
    rcases this with rfl | rfl | rfl | rfl <;> simp [casB, casM]
  · have : r = 0 ∨ r = 1 ∨ r = 2 ∨ r = 3 := by omega
    rcases this with rfl | rfl | rfl | rfl <;> simp [casB, casT]
theorem king_home (hi : InvC c) (h : c (casF r) = 1 + 6 * c 64) (hr : r < 4) : kingI c (c 64) = casF r := by
  have h64 := hi.turn
  obtain ⟨k, k1, k2, k3, k4⟩ := hi.kingAt (b := c 64) (by omega)
  have := k4 (casF r) (cas_facts hr).1 h
  rw [k3, this]
theorem cas_leg (h : MvK2 c r) (hi : InvC c) : legB c ((casF r : Int), (casT r : Int), 0) = !attB c (casT r) (1 - c 64) := by
  have h64 := hi.turn
  have hk : KingAt c (c 64) (casF r) := by
    obtain ⟨k, k1, k2, k3, k4⟩ := hi.kingAt (b := c 64) (by omega)
    have := k4 (casF r) (cas_facts h.hr).1 h.king
    subst this
    exact ⟨k1, k2, k4⟩
  have e := (kings_K h.toMvK hi (by omega) hk).eq
  rw [if_pos rfl] at e
  rw [leg_own (c' := madeC c (casF r) (casT r) 0) (f := casF r) (t := casT r) hi rfl rfl rfl fun k hk => kings_K h.toMvK hi (by omega) hk]
  unfold ownC
  rw [e, cas_att h hi]
theorem castP_iff (hi : InvC c) (hr : r < 4) (hs : c 64 = ((r / 2 : Nat) : Int)) : (castP c r ∧ legB c ((casF r : Int), (casT r : Int), 0) = true) ↔ CasOk c r := by
  obtain ⟨e1, e2, e3, e4⟩ := home_nat hr
  unfold castP
  rw [hi.rights, e3]
  constructor
  · rintro ⟨⟨a1, a2, a3, a4⟩, a5⟩
    rw [e1] at a2
    have h0 : CasOk c r → True := fun _ => trivial
    obtain ⟨b1, b2⟩ := right_at hi hr a1
    have hfree : ∀ j : Nat, casB r j → c j = 0 := fun j hj => a4 j ((casB_iff hr j).2 hj)
    have hmv : MvK2 c r := by
      refine ⟨⟨hr, hs, by rw [b1, hs], by rw [b2, hs], hfree _ ?_, hfree _ ?_⟩, fun j hj => a4 j hj⟩
      · have : r = 0 ∨ r = 1 ∨ r = 2 ∨ r = 3 := by omega
        rcases this with rfl | rfl | rfl | rfl <;> simp [casB, casM]
      · have : r = 0 ∨ r = 1 ∨ r = 2 ∨ r = 3 := by omega
        rcases this with rfl | rfl | rfl | rfl <;> simp [casB, casT]
    rw [cas_leg hmv hi, Bool.not_eq_true'] at a5
    exact ⟨hs, a1, hfree, a2, a3, a5⟩
  · intro h
    have hmv := h.mv hi hr
    refine ⟨⟨h.bit, by rw [e1]; exact h.k0, h.k1, fun j hj => h.free j ((casB_iff hr j).1 hj)⟩, ?_⟩
    rw [cas_leg hmv hi, h.k2]; rfl
theorem kC_iff (hs : RepS c s) (hi : InvC c) (hr : r < 4) : kC s.1 s.2.1 s.2.2 r = true ↔ CasOk c r := by
  have h64 := hi.turn
  have hT := hs.d.turn
  have hchk := hs.chk
  have gen : ∀ (t : Int) (can : Bool) (em : BitVec 64) (a b : Nat), a < 64 → b < 64 → t = ((r / 2 : Nat) : Int) + 1 → (s.2.1.turn = t → can = decide (bitI (c 65) r = 1)) → (∀ u : Nat, u < 64 → (occB em u = true ↔ casB r u)) → (∀ j, casB r j → j < 64) → ((a = casM r ∧ b = casT r) ∨ (a = casT r ∧ b = casM r)) →
      (kB s.2.1 s.2.2 t can em [(a : Int), (b : Int)] = true ↔ CasOk c r) := by
    intro t can em a b ha hb ht hcan hem hlt hab
    unfold kB
    rw [Bool.and_eq_true, Bool.and_eq_true, Bool.and_eq_true, Bool.and_eq_true, decide_eq_true_eq, em_iff hs.d.b hi, any2_iff hs.d.b hi ha hb hT, hchk]
    constructor
    · rintro ⟨g1, g2, g3, ⟨g4, g5⟩, g6⟩
      have hsd : c 64 = ((r / 2 : Nat) : Int) := by omega
      rw [hcan g1, decide_eq_true_eq] at g2
      obtain ⟨b1, b2⟩ := right_at hi hr g2
      rw [king_home hi (by rw [b1, hsd]) hr, Bool.not_eq_true'] at g6
      refine ⟨hsd, g2, fun j hj => g3 j (hlt j hj) ((hem j (hlt j hj)).2 hj), g6, ?_, ?_⟩
      · rcases hab with ⟨rfl, rfl⟩ | ⟨rfl, rfl⟩
        · exact g4
        · exact g5
      · rcases hab with ⟨rfl, rfl⟩ | ⟨rfl, rfl⟩
        · exact g5
        · exact g4
    · intro h
      have hsd := h.side
      have g1 : s.2.1.turn = t := by omega
      obtain ⟨b1, b2⟩ := right_at hi hr h.bit
      refine ⟨g1, by rw [hcan g1]; exact decide_eq_true h.bit, fun u hu he => h.free u ((hem u hu).1 he), ?_, ?_⟩
      · rcases hab with ⟨rfl, rfl⟩ | ⟨rfl, rfl⟩
        · exact ⟨h.k1, h.k2⟩
        · exact ⟨h.k2, h.k1⟩
      · rw [king_home hi (by rw [b1, hsd]) hr, h.k0]; rfl
  have hcan := hs.can r hr
  have hr4 : r = 0 ∨ r = 1 ∨ r = 2 ∨ r = 3 := by omega
  rcases hr4 with rfl | rfl | rfl | rfl
  · refine gen 1 _ _ 5 6 (by decide) (by decide) rfl (fun e => by rw [e]; exact hcan) (fun u hu => ?_) (fun j hj => by simp [casB] at hj; omega) (.inl ⟨rfl, rfl⟩)
    rw [occ_or, Bool.or_eq_true, show (5 : Int) = ((5 : Nat) : Int) from rfl, show (6 : Int) = ((6 : Nat) : Int) from rfl, occ_sq (by decide) hu, occ_sq (by decide) hu, decide_eq_true_eq, decide_eq_true_eq]
    simp only [casB, ↓reduceIte]; omega
  · refine gen 1 _ _ 2 3 (by decide) (by decide) rfl (fun e => by rw [e]; exact hcan) (fun u hu => ?_) (fun j hj => by simp [casB] at hj; omega) (.inr ⟨rfl, rfl⟩)
    rw [occ_or, occ_or, Bool.or_eq_true, Bool.or_eq_true, show (1 : Int) = ((1 : Nat) : Int) from rfl, show (2 : Int) = ((2 : Nat) : Int) from rfl, show (3 : Int) = ((3 : Nat) : Int) from rfl, occ_sq (by decide) hu, occ_sq (by decide) hu, occ_sq (by decide) hu, decide_eq_true_eq, decide_eq_true_eq, decide_eq_true_eq]
    simp [casB]; omega
  · refine gen 2 _ _ 61 62 (by decide) (by decide) rfl (fun e => by rw [e]; exact hcan) (fun u hu => ?_) (fun j hj => by simp [casB] at hj; omega) (.inl ⟨rfl, rfl⟩)
    rw [occ_or, Bool.or_eq_true, show (61 : Int) = ((61 : Nat) : Int) from rfl, show (62 : Int) = ((62 : Nat) : Int) from rfl, occ_sq (by decide) hu, occ_sq (by decide) hu, decide_eq_true_eq, decide_eq_true_eq]
    simp [casB]; omega
  · refine gen 2 _ _ 58 59 (by decide) (by decide) rfl (fun e => by rw [e]; exact hcan) (fun u hu => ?_) (fun j hj => by simp [casB] at hj; omega) (.inr ⟨rfl, rfl⟩)
    rw [occ_or, occ_or, Bool.or_eq_true, Bool.or_eq_true, show (57 : Int) = ((57 : Nat) : Int) from rfl, show (58 : Int) = ((58 : Nat) : Int) from rfl, show (59 : Int) = ((59 : Nat) : Int) from rfl, occ_sq (by decide) hu, occ_sq (by decide) hu, occ_sq (by decide) hu, decide_eq_true_eq, decide_eq_true_eq, decide_eq_true_eq]
    simp [casB]; omega
theorem kM_to (D : Pd) (B : Brd) (h : r < 4) : toM (kM D B r) = ((casF r : Int), (casT r : Int), 0) := by
  have hr4 : r = 0 ∨ r = 1 ∨ r = 2 ∨ r = 3 := by omega
  rcases hr4 with rfl | rfl | rfl | rfl <;> rfl
open Classical in
theorem cs_eq (hs : RepS c s) (hi : InvC c) : (csL s.1 s.2.1 s.2.2 4).map toM = (castL c).filter (legB c) := by
  have h64 := hi.turn
  have step : ∀ r : Nat, r < 4 → ∀ l : List Mv, (l ++ if kC s.1 s.2.1 s.2.2 r = true then [kM s.2.1 s.2.2 r] else []).map toM = l.map toM ++ if kC s.1 s.2.1 s.2.2 r = true then [((casF r : Int), (casT r : Int), (0 : Int))] else [] := fun r hr l => by
    rw [List.map_append]
    congr 1
    split
    · rw [List.map_singleton, kM_to _ _ hr]
    · rfl
  have hno : ∀ r : Nat, r < 4 → ¬ c 64 = ((r / 2 : Nat) : Int) → ¬ kC s.1 s.2.1 s.2.2 r = true := fun r hr h e => h ((kC_iff hs hi hr).1 e).side
  have hcast : ∀ r : Nat, r < 4 → c 64 = ((r / 2 : Nat) : Int) → ((if castP c r then [(homeK r, homeK r + 2 * cW r, (0 : Int))] else []).filter (legB c)) = if kC s.1 s.2.1 s.2.2 r = true then [((casF r : Int), (casT r : Int), (0 : Int))] else [] := fun r hr hsd => by
    obtain ⟨e1, e2, e3, e4⟩ := home_nat hr
    have hk := (kC_iff hs hi hr).trans (castP_iff hi hr hsd).symm
    by_cases hc : castP c r
    · rw [if_pos hc, e4, e1]
      cases hl : legB c ((casF r : Int), (casT r : Int), 0)
      · rw [if_neg (fun e => by have := (hk.1 e).2; rw [hl] at this; cases this)]
        simp [hl]
      · rw [if_pos (hk.2 ⟨hc, hl⟩)]
        simp [hl]
    · rw [if_neg hc, if_neg (fun e => hc (hk.1 e).1)]; rfl
  have e4 : csL s.1 s.2.1 s.2.2 4 = ((([] ++ if kC s.1 s.2.1 s.2.2 0 = true then [kM s.2.1 s.2.2 0] else []) ++ if kC s.1 s.2.1 s.2.2 1 = true then [kM s.2.1 s.2.2 1] else []) ++ if kC s.1 s.2.1 s.2.2 2 = true then [kM s.2.1 s.2.2 2] else []) ++ if kC s.1 s.2.1 s.2.2 3 = true then [kM s.2.1 s.2.2 3] else [] := rfl
  rw [e4, step 3 (by decide), step 2 (by decide), step 1 (by decide), step 0 (by decide)]
  rcases (show c 64 = 0 ∨ c 64 = 1 by omega) with h0 | h0
  · have e : castL c = ([] ++ if castP c (0 + 0) then [(homeK (0 + 0 : Nat), homeK (0 + 0 : Nat) + 2 * cW (0 + 0 : Nat), 0)] else []) ++ if castP c (0 + 1) then [(homeK (0 + 1 : Nat), homeK (0 + 1 : Nat) + 2 * cW (0 + 1 : Nat), 0)] else [] := by
      unfold castL; rw [h0]; rfl
    rw [e, List.filter_append, List.filter_append, if_neg (hno 2 (by decide) (by rw [h0]; decide)), if_neg (hno 3 (by decide) (by rw [h0]; decide))]
    have a0 := hcast 0 (by decide) (by rw [h0]; rfl)
    have a1 := hcast 1 (by decide) (by rw [h0]; rfl)
    simp only [Nat.zero_add, List.append_nil, List.map_nil, List.filter_nil, List.nil_append]
    rw [a0, a1]
  · have e : castL c = ([] ++ if castP c (2 + 0) then [(homeK (2 + 0 : Nat), homeK (2 + 0 : Nat) + 2 * cW (2 + 0 : Nat), 0)] else []) ++ if castP c (2 + 1) then [(homeK (2 + 1 : Nat), homeK (2 + 1 : Nat) + 2 * cW (2 + 1 : Nat), 0)] else [] := by
      unfold castL; rw [h0]; rfl
    rw [e, List.filter_append, List.filter_append, if_neg (hno 0 (by decide) (by rw [h0]; decide)), if_neg (hno 1 (by decide) (by rw [h0]; decide))]
    have a0 := hcast 2 (by decide) (by rw [h0]; rfl)
    have a1 := hcast 3 (by decide) (by rw [h0]; rfl)
    simp only [Nat.add_zero, Nat.reduceAdd, List.append_nil, List.map_nil, List.filter_nil, List.nil_append]
    rw [a0, a1]
end
end Go.Tb
end
section
namespace Go.Tb
open Go Go.Proofs
set_option maxRecDepth 20000
attribute [local irreducible] tg4 madeC updB attB inChk
section
variable {c : Nat → Int} {r : Nat} {B : Brd} {D : Pd} {s : PSt} {M : Mv}
theorem all_perm (hs : RepS c s) (hi : InvC c) : ((allS s).map toM).Perm (legL c) := by
  have h1 : (legL c).Perm ((pseuK c 64 ++ castL c).filter (legB c)) := (ordL_perm _).filter _
  refine List.Perm.trans ?_ h1.symm
  unfold allS allL
  rw [List.map_append, List.filter_append, cs_eq hs hi]
  exact (std_perm hs.d hi).append_right _
theorem cs_mem {l : List UInt8} : ∀ n, M ∈ csL l D B n ↔ ∃ r : Nat, r < n ∧ kC l D B r = true ∧ M = kM D B r
  | 0 => by simp [csL]
  | n + 1 => by
    rw [csL, List.mem_append, cs_mem n]
    constructor
    · rintro (⟨q, h1, h2⟩ | h)
      · exact ⟨q, by omega, h2⟩
      · split at h
        · simp at h; exact ⟨n, by omega, by assumption, h⟩
        · cases h
    · rintro ⟨q, h1, h2, h3⟩
      rcases Nat.lt_or_ge q n with h | h
      · exact .inl ⟨q, h, h2, h3⟩
      · have : q = n := by omega
        subst this; right; rw [if_pos h2, h3]; simp
theorem kM0_tags (h : r < 4) : TagsAre (kM0 r).tags (decide (r % 2 = 0)) (decide (r % 2 = 1)) false false false := by
  have hr4 : r = 0 ∨ r = 1 ∨ r = 2 ∨ r = 3 := by omega
  rcases hr4 with rfl | rfl | rfl | rfl
  · exact TagsAre.zero.or1
  · exact TagsAre.zero.or2
  · exact TagsAre.zero.or1
  · exact TagsAre.zero.or2
theorem kM0_sq (h : r < 4) : (kM0 r).s1 = casF r ∧ (kM0 r).s2 = casT r ∧ (kM0 r).promo = 0 := by
  have hr4 : r = 0 ∨ r = 1 ∨ r = 2 ∨ r = 3 := by omega
  rcases hr4 with rfl | rfl | rfl | rfl <;> exact ⟨rfl, rfl, rfl⟩
theorem cas_mok (hs : RepS c s) (hi : InvC c) (hr : r < 4) (h : kC s.1 s.2.1 s.2.2 r = true) : MokM c s.2.2 (kM s.2.1 s.2.2 r) := by
  have hc := (kC_iff hs hi hr).1 h
  have hmv := hc.mv hi hr
  obtain ⟨q1, q2, q3⟩ := kM0_sq hr
  obtain ⟨a1, a2⟩ := all_K (M := kM0 r) hs.d.b hi hmv.toMvK hs.d.turn hs.d.ep q1 q2 q3 (kM0_tags hr)
  rw [Bool.false_or, Bool.false_or] at a1 a2
  have hleg := (castP_iff hi hr hc.side).2 hc
  have hown : ownC c (madeC c (casF r) (casT r) 0) = false := by
    have h64 : c 64 = 0 ∨ c 64 = 1 := by have := hi.turn; omega
    have := leg_own (c' := madeC c (casF r) (casT r) 0) (m := ((casF r : Int), (casT r : Int), 0)) (f := casF r) (t := casT r) hi rfl rfl rfl fun k hk => kings_K hmv.toMvK hi h64 hk
    rw [hleg.2] at this
    cases hx : ownC c (madeC c (casF r) (casT r) 0)
    · rfl
    · rw [hx] at this; cases this
  refine MokM.mk' (kM_to _ _ hr) (.k r hmv.toMvK rfl rfl rfl) hleg.2 ⟨decide (r % 2 = 0), decide (r % 2 = 1), false, givC c (madeC c (casF r) (casT r) 0), ?_, fun _ => rfl⟩ (a2 _ a1)
  rw [hown] at a1; exact a1
theorem all_mok (hs : RepS c s) (hi : InvC c) (h : M ∈ allS s) : MokM c s.2.2 M := by
  unfold allS allL at h
  rcases List.mem_append.1 h with h | h
  · exact std_mok hs.d hi h
  · obtain ⟨r, hr, hk, rfl⟩ := (cs_mem 4).1 h
    exact cas_mok hs hi hr hk
theorem KindM.sq (hi : InvC c) (h : KindM c (toM M)) : (0 ≤ M.s1 ∧ M.s1 ≤ 63) ∧ (0 ≤ M.s2 ∧ M.s2 ≤ 63) ∧ (M.promo = 0 ∨ (2 ≤ M.promo ∧ M.promo ≤ 5)) ∧ ∃ f t : Nat, MvB c f t ∧ M.s1 = f ∧ M.s2 = t := by
  cases h with
  | n f t h hg hp e1 e2 =>
    have e1 : M.s1 = f := e1
    have e2 : M.s2 = t := e2
    have h1 := h.hf
    have h2 := h.ht
    refine ⟨by omega, by omega, ?_, f, t, h.toMvB, e1, e2⟩
    rcases h.promo with h3 | h3
    · exact .inl h3
    · exact .inr h3.1
  | e f t e h e1 e2 e3 =>
    have e1 : M.s1 = f := e1
    have e2 : M.s2 = t := e2
    have h1 := h.hf
    have h2 := h.ht
    exact ⟨by omega, by omega, .inl e3, f, t, h.toMvB, e1, e2⟩
  | k r h e1 e2 e3 =>
    have e1 : M.s1 = casF r := e1
    have e2 : M.s2 = casT r := e2
    obtain ⟨h1, h2, _⟩ := cas_facts h.hr
    exact ⟨by omega, by omega, .inl e3, casF r, casT r, h.toB hi, e1, e2⟩
theorem all_mvOk (hs : RepS c s) (hi : InvC c) (h : M ∈ allS s) : MvOk s.2.2 M := by
  obtain ⟨h1, h2, h3, f, t, h4, h5, h6⟩ := (all_mok hs hi h).kind.sq hi
  refine ⟨h1, h2, fun hp => ⟨by omega, ?_⟩⟩
  rw [h5, pieceAt_rep hs.d.b hi.bd h4.hf]
  have := (tgt_in h4 hi).1
  omega
theorem king_bd (hi : InvC c) {b : Int} (hb : b = 0 ∨ b = 1) : -1 ≤ kingI c b ∧ kingI c b ≤ 63 := by
  obtain ⟨k, k1, k2, k3, k4⟩ := hi.kingAt hb
  rw [k3]; omega
theorem st_ok (hs : RepS c s) (hi : InvC c) (hl : (legL c).length ≤ 218) (hh : 0 ≤ s.2.1.half ∧ s.2.1.half ≤ 1000000) (hm : 0 ≤ s.2.1.mc ∧ s.2.1.mc ≤ 1000000) : StOk s := by
  have h64 := hi.turn
  have hp := (all_perm hs hi).length_eq
  rw [List.length_map] at hp
  have h1 := allL_len s.1 s.2.1 s.2.2
  have ep : -1 ≤ c 66 ∧ c 66 ≤ 63 := by rcases hi.ep with h | ⟨_, h, _⟩ <;> omega
  refine ⟨hs.len, hs.cr, ?_, by rw [hs.d.ep]; exact ep, by rw [hs.d.turn]; omega, by rw [hs.d.b.wks]; exact king_bd hi (.inl rfl), by rw [hs.d.b.bks]; exact king_bd hi (.inr rfl), hh, hm⟩
  unfold allS at hp; omega
end
end Go.Tb
end
section
namespace Go.Tb
open Go Go.Proofs
set_option maxRecDepth 20000
theorem bit_sub_all : ∀ n : Fin 16, ∀ k j : Fin 4, bitI (n.val : Int) k.val = 1 → (0 ≤ (n.val : Int) - 2 ^ k.val ∧ (n.val : Int) - 2 ^ k.val ≤ 15) ∧ (bitI ((n.val : Int) - 2 ^ k.val) j.val = 1 ↔ (bitI (n.val : Int) j.val = 1 ∧ j.val ≠ k.val)) := by decide +kernel
theorem bits_sum_all : ∀ n : Fin 16, (n.val : Int) = (((0 + if bitI (n.val : Int) 0 = 1 then 2 ^ 0 else 0) + if bitI (n.val : Int) 1 = 1 then 2 ^ 1 else 0) + if bitI (n.val : Int) 2 = 1 then 2 ^ 2 else 0) + if bitI (n.val : Int) 3 = 1 then 2 ^ 3 else 0 := by decide +kernel
def hitK (f t : Int) (k : Nat) : Prop := f = homeK k ∨ f = homeR k ∨ t = homeK k ∨ t = homeR k
instance (f t : Int) (k : Nat) : Decidable (hitK f t k) := by unfold hitK; infer_instance
theorem left_bit {x f t : Int} (hx : 0 ≤ x ∧ x ≤ 15) : ∀ n : Nat, n ≤ 4 → (0 ≤ leftN x f t n ∧ leftN x f t n ≤ 15) ∧ ∀ j : Nat, j < 4 → (bitI (leftN x f t n) j = 1 ↔ bitI x j = 1 ∧ ¬ (j < n ∧ hitK f t j))
  | 0, _ => ⟨hx, fun j _ => by simp [leftN]⟩
  | n + 1, h => by
    obtain ⟨ih1, ih2⟩ := left_bit (f := f) (t := t) hx n (by omega)
    simp only [leftN]
    by_cases hc : bitI (leftN x f t n) n = 1 ∧ (f = homeK n ∨ f = homeR n ∨ t = homeK n ∨ t = homeR n)
    · rw [if_pos hc]
      have hs := fun j => bit_sub_all ⟨(leftN x f t n).toNat, by omega⟩ ⟨n, by omega⟩ j
      simp only [Int.toNat_of_nonneg ih1.1] at hs
      refine ⟨(hs 0 hc.1).1, fun j hj => ?_⟩
      rw [(hs ⟨j, hj⟩ hc.1).2, ih2 j hj]
      constructor
      · rintro ⟨⟨a, b⟩, d⟩
        exact ⟨a, fun ⟨e1, e2⟩ => b ⟨by simp only at d; omega, e2⟩⟩
      · rintro ⟨a, b⟩
        refine ⟨⟨a, fun ⟨e1, e2⟩ => b ⟨by omega, e2⟩⟩, ?_⟩
        simp only
        rintro rfl
        exact b ⟨by omega, hc.2⟩
    · rw [if_neg hc]
      refine ⟨ih1, fun j hj => ?_⟩
      rw [ih2 j hj]
      constructor
      · rintro ⟨a, b⟩
        refine ⟨a, fun ⟨e1, e2⟩ => ?_⟩
        rcases Nat.lt_or_ge j n with h1 | h1
        · exact b ⟨h1, e2⟩
        · have : j = n := by omega
          subst this
          exact hc ⟨(ih2 j hj).2 ⟨a, fun e => by omega⟩, e2⟩
      · rintro ⟨a, b⟩
        exact ⟨a, fun ⟨e1, e2⟩ => b ⟨by omega, e2⟩⟩
section
variable {c : Nat → Int} {m : M3} {f t : Nat} {p : Int}
theorem madeC_65 (c : Nat → Int) (f t p : Int) : madeC c f t p 65 = leftN (c 65) f t 4 := by
  unfold madeC; simp only [upd_at]; rfl
theorem madeC_66 (c : Nat → Int) (f t p : Int) : madeC c f t p 66 = mdEp c f t := by
  unfold madeC; simp only [upd_at]; rfl
theorem madeC_67 (c : Nat → Int) (f t p : Int) : madeC c f t p 67 = mdHalf c f t := by
  unfold madeC; simp only [upd_at]; rfl
theorem madeC_68 (c : Nat → Int) (f t p : Int) : madeC c f t p 68 = c 68 + c 64 := by
  unfold madeC; simp only [upd_at]; rfl
theorem KindM.off (hi : InvC c) (h : KindM c m) : ∃ f t : Nat, MvB c f t ∧ m.1 = f ∧ m.2.1 = t ∧ (∀ b : Int, b = 0 ∨ b = 1 → ∀ k : Nat, KingAt c b k → KingAt (madeM c m) b (if f = k then t else k)) ∧
    (∀ u : Nat, u < 64 → u ≠ f → u ≠ t → kindOf (c u) ≠ 6 → (kindOf (c f) = 1 → ¬ (∃ r, MvK c r ∧ f = casF r ∧ (u = casR r ∨ u = casM r))) → madeM c m u = c u) := by
  cases h with
  | n f t h hg hp e1 e2 =>
    refine ⟨f, t, h.toMvB, e1, e2, fun b hb k hk => ?_, fun u hu h1 h2 _ _ => ?_⟩
    · unfold madeM; rw [e1, e2]; exact kings_N h.toMvN hi hb hk
    · unfold madeM; rw [e1, e2, cells_N h.toMvN hu, if_neg h2, if_neg h1]
  | e f t e h e1 e2 e3 =>
    refine ⟨f, t, h.toMvB, e1, e2, fun b hb k hk => ?_, fun u hu h1 h2 h3 _ => ?_⟩
    · unfold madeM; rw [e1, e2, e3]; exact kings_E h hi hb hk
    · unfold madeM; rw [e1, e2, e3, cells_E h hi hu, if_neg h2, if_neg h1, if_neg]
      rintro rfl
      have h64 := hi.turn
      have : kindOf (6 + 6 * (1 - c 64)) = 6 := by
        rcases (show c 64 = 0 ∨ c 64 = 1 by omega) with h0 | h0 <;> rw [h0] <;> rfl
      rw [h.take] at h3; exact h3 this
  | k r h e1 e2 e3 =>
    refine ⟨casF r, casT r, h.toB hi, e1, e2, fun b hb k hk => ?_, fun u hu h1 h2 _ h4 => ?_⟩
    · unfold madeM; rw [e1, e2, e3]; exact kings_K h hi hb hk
    · have hk1 : kindOf (c (casF r)) = 1 := by rw [h.king]; exact kind_king (by have := hi.turn; omega)
      have h5 := h4 hk1
      unfold madeM; rw [e1, e2, e3, cells_K h hi hu, if_neg (fun e => h5 ⟨r, h, rfl, .inr e⟩), if_neg (fun e => h5 ⟨r, h, rfl, .inl e⟩), if_neg h2, if_neg h1]
theorem kind_rook {n : Int} (h : n = 0 ∨ n = 1) : kindOf (3 + 6 * n) = 3 := by rcases h with rfl | rfl <;> rfl
theorem hitK_nat {r : Nat} (h : r < 4) : hitK f t r ↔ f = casF r ∨ f = casR r ∨ t = casF r ∨ t = casR r := by
  obtain ⟨e1, e2, _⟩ := home_nat h
  unfold hitK; rw [e1, e2]; omega
theorem inv_rights (hi : InvC c) (h : KindM c m) : rightsN (madeM c m) 4 = madeM c m 65 := by
  have h64 := hi.turn
  obtain ⟨f, t, hB, e1, e2, _, hoff⟩ := h.off hi
  obtain ⟨hb1, hb2⟩ := left_bit (f := f) (t := t) hi.cast 4 (Nat.le_refl _)
  have e65 : madeM c m 65 = leftN (c 65) f t 4 := by unfold madeM; rw [madeC_65, e1, e2]
  have key : ∀ r : Nat, r < 4 → (rightB (madeM c m) r = true ↔ bitI (leftN (c 65) f t 4) r = 1) := by
    intro r hr
    unfold rightB
    obtain ⟨q1, q2, _⟩ := home_nat hr
    rw [e65, q1, q2, Int.toNat_natCast, Int.toNat_natCast, Bool.and_eq_true, Bool.and_eq_true, decide_eq_true_eq, decide_eq_true_eq, decide_eq_true_eq]
    constructor
    · rintro ⟨⟨a, _⟩, _⟩; exact a
    · intro a
      obtain ⟨a1, a2⟩ := (hb2 r hr).1 a
      obtain ⟨k1, k2⟩ := right_at hi hr a1
      have hn : ¬ (f = casF r ∨ f = casR r ∨ t = casF r ∨ t = casR r) := fun e => a2 ⟨hr, (hitK_nat hr).2 e⟩
      have hr2 : (((r / 2 : Nat) : Int) = 0 ∨ ((r / 2 : Nat) : Int) = 1) := by omega
      obtain ⟨g1, _, g3, _⟩ := cas_facts hr
      have hcas : ∀ u, (u = casF r ∨ u = casR r) → kindOf (c f) = 1 → ¬ (∃ r', MvK c r' ∧ f = casF r' ∧ (u = casR r' ∨ u = casM r')) := by
        rintro u hu _ ⟨r', hk, hf', hx⟩
        have hn1 : casF r ≠ casF r' := fun e => hn (.inl (by rw [hf', e]))
        have h4 : r = 0 ∨ r = 1 ∨ r = 2 ∨ r = 3 := by omega
        have h4' : r' = 0 ∨ r' = 1 ∨ r' = 2 ∨ r' = 3 := by have := hk.hr; omega
        rcases h4 with rfl | rfl | rfl | rfl <;> rcases h4' with rfl | rfl | rfl | rfl <;> simp [casF, casR, casM] at hn1 hu hx <;> omega
      have m1 := hoff (casF r) g1 (fun e => hn (.inl e.symm)) (fun e => hn (.inr (.inr (.inl e.symm)))) (by rw [k1, kind_king hr2]; decide) (hcas _ (.inl rfl))
      have m2 := hoff (casR r) g3 (fun e => hn (.inr (.inl e.symm))) (fun e => hn (.inr (.inr (.inr e.symm)))) (by rw [k2, kind_rook hr2]; decide) (hcas _ (.inr rfl))
      refine ⟨⟨a, ?_⟩, ?_⟩
      · rw [m1, k1]; omega
      · rw [m2, k2]; omega
  have hsum := bits_sum_all ⟨(leftN (c 65) f t 4).toNat, by omega⟩
  simp only [Int.toNat_of_nonneg hb1.1] at hsum
  rw [e65, hsum]
  simp only [rightsN]
  have hif : ∀ r : Nat, r < 4 → (if rightB (madeM c m) r = true then (2 : Int) ^ r else 0) = if bitI (leftN (c 65) f t 4) r = 1 then 2 ^ r else 0 := fun r hr => by
    by_cases hx : bitI (leftN (c 65) f t 4) r = 1
    · rw [if_pos hx, if_pos ((key r hr).2 hx)]
    · rw [if_neg hx, if_neg (fun e => hx ((key r hr).1 e))]
  rw [hif 0 (by decide), hif 1 (by decide), hif 2 (by decide), hif 3 (by decide)]
theorem inv_ep (hi : InvC c) (h : KindM c m) : madeM c m 66 = -1 ∨ (madeM c m 66 / 8 = 5 - 3 * madeM c m 64 ∧ (0 ≤ madeM c m 66 ∧ madeM c m 66 ≤ 63) ∧ madeM c m (madeM c m 66).toNat = 0 ∧ madeM c m (madeM c m 66 - 8 * upOf (madeM c m 64)).toNat = 6 + 6 * (1 - madeM c m 64)) := by
  have h64 := hi.turn
  have e64 : madeM c m 64 = 1 - c 64 := by unfold madeM; rw [madeC_64]
  have e66 : madeM c m 66 = mdEp c m.1 m.2.1 := by unfold madeM; rw [madeC_66]
  cases h with
  | n f t h hg hp e1 e2 =>
    rw [e66, e64, e1, e2]
    unfold mdEp
    by_cases hj : isJump c f t
    · rw [if_pos hj]
      have h6 := hj.1
      rw [Int.toNat_natCast] at h6
      have hj2 := hj.2
      have hlt := h.ht
      have hlf := h.hf
      have hpw := hi.pawns f h.hf h6
      have hsf := side_b (tgt_in h.toMvB hi).1
      have hown := h.own
      have hu : (c 64 = 0 ∧ upOf (c 64) = 1 ∧ upOf (1 - c 64) = -1) ∨ (c 64 = 1 ∧ upOf (c 64) = -1 ∧ upOf (1 - c 64) = 1) := by unfold upOf; omega
      unfold tgtP at hg
      rw [if_pos h6] at hg
      have hkf : c f = 6 + 6 * c 64 := by
        have : c f = 6 ∨ c f = 12 := by unfold kindOf at h6; split at h6 <;> omega
        omega
      rcases hg with ⟨g, _⟩ | ⟨g1, g2, g3, g4⟩ | ⟨g, g', _⟩
      · omega
      · have hp0 : m.2.2 = 0 := by
          have := (promOk_n (c := c) (f := f) (t := t) (p := m.2.2) (fun hl => by have := hl.2; omega)).1 hp
          exact this
        have hmid : ((f : Int) + 8 * upOf (c 64)).toNat < 64 := by omega
        have hmf : ((f : Int) + 8 * upOf (c 64)).toNat ≠ f := by omega
        have hmt : ((f : Int) + 8 * upOf (c 64)).toNat ≠ t := by omega
        have em : ((f : Int) + (t : Int)) / 2 = (f : Int) + 8 * upOf (c 64) := by omega
        right
        refine ⟨by omega, by omega, ?_, ?_⟩
        · rw [em]
          unfold madeM
          rw [e1, e2, cells_N h.toMvN hmid, if_neg hmt, if_neg hmf]; exact g3
        · have et : (((f : Int) + (t : Int)) / 2 - 8 * upOf (1 - c 64)).toNat = t := by omega
          rw [et]
          unfold madeM
          rw [e1, e2, cells_N h.toMvN h.ht, if_pos rfl, if_pos hp0, hkf]; omega
      · unfold fdif at g; unfold rdif at g'; omega
    · rw [if_neg hj]; exact .inl rfl
  | e f t e h e1 e2 e3 =>
    left
    rw [e66, e1, e2]
    unfold mdEp
    rw [if_neg]
    rintro ⟨_, hj⟩
    have := h.rk
    have hu : upOf (c 64) = 1 ∨ upOf (c 64) = -1 := by unfold upOf; omega
    omega
  | k r h e1 e2 e3 =>
    left
    rw [e66, e1, e2]
    unfold mdEp
    rw [if_neg]
    rintro ⟨hk, _⟩
    rw [Int.toNat_natCast, h.king, kind_king (by omega)] at hk; cases hk
theorem inv_pawns (hi : InvC c) (h : KindM c m) : ∀ k : Nat, k < 64 → kindOf (madeM c m k) = 6 → 8 ≤ (k : Int) ∧ (k : Int) ≤ 55 := by
  have h64 := hi.turn
  have hu : (c 64 = 0 ∧ upOf (c 64) = 1) ∨ (c 64 = 1 ∧ upOf (c 64) = -1) := by unfold upOf; omega
  intro k hk h6
  cases h with
  | n f t h hg hp e1 e2 =>
    unfold madeM at h6
    rw [e1, e2, cells_N h.toMvN hk] at h6
    split at h6
    · rename_i ekt
      subst ekt
      split at h6
      · rename_i hp0
        have hpw := hi.pawns f h.hf h6
        unfold tgtP at hg
        rw [if_pos h6] at hg
        have hnl : ¬ lastR c f k := fun hl => by
          have := (promOk_y hl).1 hp
          omega
        have hnl2 : (k : Int) / 8 ≠ 7 - 7 * c 64 := fun e => hnl ⟨h6, e⟩
        rcases hg with ⟨g, _⟩ | ⟨g, g', _⟩ | ⟨g, g', _⟩
        · omega
        · omega
        · unfold fdif at g; unfold rdif at g'; omega
      · rename_i hp0
        rcases h.promo with h1 | ⟨h1, _⟩
        · exact absurd h1 hp0
        · exfalso
          have : kindOf (m.2.2 + 6 * c 64) = m.2.2 := by unfold kindOf; split <;> omega
          omega
    · split at h6
      · cases h6
      · exact hi.pawns k hk h6
  | e f t e h e1 e2 e3 =>
    unfold madeM at h6
    rw [e1, e2, e3, cells_E h hi hk] at h6
    split at h6
    · rename_i ekt
      subst ekt
      have hep := h.ep
      rcases hi.ep with h1 | ⟨h1, _⟩ <;> omega
    · split at h6
      · cases h6
      · split at h6
        · cases h6
        · exact hi.pawns k hk h6
  | k r h e1 e2 e3 =>
    unfold madeM at h6
    rw [e1, e2, e3, cells_K h hi hk] at h6
    split at h6
    · rw [kind_rook (by omega)] at h6; cases h6
    · split at h6
      · cases h6
      · split at h6
        · rw [h.king, kind_king (by omega)] at h6; cases h6
        · split at h6
          · cases h6
          · exact hi.pawns k hk h6
theorem KindM.prom (hi : InvC c) (h : KindM c m) : 0 ≤ m.2.2 ∧ m.2.2 ≤ 5 := by
  cases h with
  | n f t h hg hp e1 e2 => rcases h.promo with h1 | ⟨h1, _⟩ <;> omega
  | e f t e h e1 e2 e3 => omega
  | k r h e1 e2 e3 => omega
theorem inv_step (hi : InvC c) (h : KindM c m) (hleg : legB c m = true) : InvC (madeM c m) := by
  have h64 := hi.turn
  obtain ⟨f, t, hB, e1, e2, hk, _⟩ := h.off hi
  have hp := h.prom hi
  have e64 : madeM c m 64 = 1 - c 64 := by unfold madeM; rw [madeC_64]
  have e65 : madeM c m 65 = leftN (c 65) m.1 m.2.1 4 := by unfold madeM; rw [madeC_65]
  refine ⟨?_, inv_pawns hi h, by rw [e64]; omega, by rw [e65]; exact (left_bit hi.cast 4 (Nat.le_refl _)).1, fun b hb => ?_, inv_rights hi h, inv_ep hi h, ?_⟩
  · unfold madeM; rw [e1, e2]; exact madeC_Bd hB hi hp
  · obtain ⟨k, k1, k2, k3⟩ := hi.king b hb
    exact ⟨_, hk b hb k ⟨k1, k2, k3⟩⟩
  · have := leg_own (m := m) (c' := madeM c m) hi rfl e1 e2 fun k hk' => hk (c 64) (by omega) k hk'
    rw [hleg] at this
    have ho : ownC c (madeM c m) = false := by
      cases hx : ownC c (madeM c m)
      · rfl
      · rw [hx] at this; cases this
    unfold ownC at ho
    rw [e64, show 1 - (1 - c 64) = c 64 by omega]; exact ho
end
end Go.Tb
end
