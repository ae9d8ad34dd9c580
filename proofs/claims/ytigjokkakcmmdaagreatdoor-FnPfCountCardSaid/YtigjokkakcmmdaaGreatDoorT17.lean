/-
  A part of the proof (my own): of the texts that the claim's last text rests on: parts I1, I2, I3, I4.
-/
import Derived.Test.YtigjokkakcmmdaaGreatDoorT16
set_option linter.unusedSimpArgs false
set_option linter.unusedVariables false
section
namespace Go.Tb
open Go Go.Proofs
variable {z : Nat × Nat}
set_option maxRecDepth 20000
def advL (c : Nat → Int) (f s : Int) : List Int :=
  if 0 ≤ atSq (f % 8) (f / 8 + upOf s) ∧ c (atSq (f % 8) (f / 8 + upOf s)).toNat = 0 then
    atSq (f % 8) (f / 8 + upOf s) :: (if f / 8 = 1 + 5 * s ∧ c (atSq (f % 8) (f / 8 + 2 * upOf s)).toNat = 0 then [atSq (f % 8) (f / 8 + 2 * upOf s)] else [])
  else []
def takeP (c : Nat → Int) (s q : Int) : Prop := (c q.toNat ≠ 0 ∧ sideOf (c q.toNat) ≠ s) ∨ (c q.toNat = 0 ∧ q = c 66 ∧ q / 8 = 5 - 3 * s)
instance (c : Nat → Int) (s q : Int) : Decidable (takeP c s q) := by unfold takeP; infer_instance
def takeL (c : Nat → Int) (s : Int) (l : List Int) : List Int := l.filter fun q => decide (takeP c s q)
def stepK (c : Nat → Int) (f s : Int) (k : Nat) : List Int := advL c f s ++ takeL c s ((hitL f s 2).take k)
def stepL (c : Nat → Int) (f : Int) : List Int := advL c f (sideOf (c f.toNat)) ++ takeL c (sideOf (c f.toNat)) (hitL f (sideOf (c f.toNat)) 2)
theorem stepK_yes {c : Nat → Int} {f s : Int} {k : Nat} (h : k < (hitL f s 2).length) (hp : takeP c s (iAt (hitL f s 2) k)) : stepK c f s (k + 1) = stepK c f s k ++ [iAt (hitL f s 2) k] := by
  unfold stepK takeL
  rw [List.take_add_one, iAt_get h, Option.toList_some, List.filter_append, List.append_assoc]
  congr 2
  simp [hp]
theorem stepK_no {c : Nat → Int} {f s : Int} {k : Nat} (h : k < (hitL f s 2).length) (hp : ¬ takeP c s (iAt (hitL f s 2) k)) : stepK c f s (k + 1) = stepK c f s k := by
  unfold stepK takeL
  rw [List.take_add_one, iAt_get h, Option.toList_some, List.filter_append]
  simp [hp]
theorem advL_len (c : Nat → Int) (f s : Int) : (advL c f s).length ≤ 2 := by unfold advL; split <;> (try split) <;> simp
theorem stepK_len (c : Nat → Int) (f s : Int) (k : Nat) : (stepK c f s k).length ≤ 4 := by
  have h1 := advL_len c f s
  have h2 := hitL_len f s 2
  have h3 := List.length_filter_le (fun q => decide (takeP c s q)) ((hitL f s 2).take k)
  have h4 : ((hitL f s 2).take k).length ≤ (hitL f s 2).length := by rw [List.length_take]; omega
  unfold stepK takeL
  rw [List.length_append]; omega
theorem hitT_bd (f s : Int) (k : Nat) : hitT f s k < 64 := atSq_lt _ _
theorem hitL_bd (f s : Int) : ∀ k, ∀ q ∈ hitL f s k, 0 ≤ q ∧ q < 64
  | 0, q, h => by cases h
  | k + 1, q, h => by
    simp only [hitL, List.mem_append] at h
    rcases h with h | h
    · exact hitL_bd f s k q h
    · split at h
      · simp at h; subst h; exact ⟨by assumption, hitT_bd _ _ _⟩
      · cases h
theorem hitL_pos {f s : Int} (hf : 8 ≤ f ∧ f ≤ 55) (hs : 0 ≤ s ∧ s ≤ 1) : (hitL f s 2).length ≠ 0 := by
  have hu : -1 ≤ upOf s ∧ upOf s ≤ 1 := by unfold upOf; omega
  by_cases h : f % 8 = 0
  · have h1 : 0 ≤ hitT f s 1 := (atSq_bd (by omega) (by omega)).1
    simp [hitL, h1]
  · have h1 : 0 ≤ hitT f s 0 := (atSq_bd (by omega) (by omega)).1
    simp [hitL, h1]
attribute [local irreducible] atSq upOf sideOf hitL stepK advL in
set_option maxHeartbeats 4000000 in
theorem steps_ok (c : Nat → Int) {f : Int} (hf : 8 ≤ f ∧ f ≤ 55) : FnM (Tz z) 53 [posV c, .int .i64 f] [] (fun h : Hold => slOk 1 (stepL c f).length (isL (stepL c f)) h) (slH 100 (stepL c f).length) (slM 3 (isL (stepL c f))) := by
  have hs := sideOf_bd (c f.toNat)
  have hu : -1 ≤ upOf (sideOf (c f.toNat)) ∧ upOf (sideOf (c f.toNat)) ≤ 1 := by unfold upOf; omega
  have hb1 := atSq_lt (f % 8) (f / 8 + upOf (sideOf (c f.toNat)))
  have hb2 : f / 8 = 1 + 5 * sideOf (c f.toNat) → 0 ≤ atSq (f % 8) (f / 8 + 2 * upOf (sideOf (c f.toNat))) ∧ atSq (f % 8) (f / 8 + 2 * upOf (sideOf (c f.toNat))) < 64 := fun h => atSq_bd (by omega) (by unfold upOf; omega)
  have hq := hitL_bd f (sideOf (c f.toNat)) 2
  have hl2 := hitL_len f (sideOf (c f.toNat)) 2
  refine ⟨by simp [Pl.int, Pl.wf, posV_pl], by simp, ?_, CallM.shiftX (start [0, 1, 2, 4, 5, 6, 7, 8, 9, 10, 11, 33, 59, 70, 111] Tryz.func53 rfl (by decide) rfl (by kernel_rfl) (by simp [Tryz.f53]) ?_)⟩
  · rintro (_ | ⟨tl, cap⟩) h o ho
    · simp [slM] at ho
    · simp only [slM, List.length_nil, List.drop_zero, List.mem_cons, List.not_mem_nil, or_false] at ho; subst ho; rfl
  simp only [Tryz.f53]
  unfold posV
  repeat' (first | with_reducible refine seq_i (a := Code.region 2 _ _) [(1, .int .i64 f), (2, .pointer (some ⟨100, 0, none⟩)), (5, .int .i64 (sideOf (c f.toNat))), (6, slH 101 0 none)] [.cells (ints .i64 69 c) 24, slB 3 (isL []) none] ?_ (fun K hJ => ?_) | (with_reducible refine seq_y (a := Code.region 5 _ _) (fun h : Hold => ([(1, .int .i64 f), (2, .pointer (some ⟨100, 0, none⟩)), (5, .int .i64 (sideOf (c f.toNat))), (6, slH 101 [atSq (f % 8) (f / 8 + upOf (sideOf (c f.toNat)))].length h)], [.cells (ints .i64 69 c) 24, slB 3 (isL [atSq (f % 8) (f / 8 + upOf (sideOf (c f.toNat)))]) h])) (fun h => slOk 1 [atSq (f % 8) (f / 8 + upOf (sideOf (c f.toNat)))].length (isL [atSq (f % 8) (f / 8 + upOf (sideOf (c f.toNat)))]) h) (fun h hk1 => ?_) (fun K hJ => ?_)) | (with_reducible refine seq_y (a := Code.seq (Code.region 4 _ _) _) (fun h : Hold => ([(1, .int .i64 f), (2, .pointer (some ⟨100, 0, none⟩)), (5, .int .i64 (sideOf (c f.toNat))), (6, slH 101 (advL c f (sideOf (c f.toNat))).length h)], [.cells (ints .i64 69 c) 24, slB 3 (isL (advL c f (sideOf (c f.toNat)))) h])) (fun h => slOk 1 (advL c f (sideOf (c f.toNat))).length (isL (advL c f (sideOf (c f.toNat)))) h) (fun h hk2 => ?_) (fun K hJ => ?_)) | (with_reducible refine hJ _ _ ?_; clear hJ) | ((with_reducible refine call_fr (hits_ok2 (f := f) (s := sideOf (c f.toNat)) (by omega) (by omega)) [] ?_ ?_ ?_ ?_); (· kernel_rfl); (· exact trivial); (· rfl); intro xx hx; obtain ⟨tl0, cap0, rfl, ht0⟩ := hold_some hx (hitL_pos hf hs); rw [fix_sl (pl_app (isL_plx _) ht0)]; simp only [List.length_cons, List.length_nil, Nat.zero_add, Nat.reduceAdd, slH_some, rl_slS, List.cons_append, List.nil_append]) | (with_reducible refine loop (V := [0, 1, 2, 4, 5, 6, 7, 8, 9, 10, 11, 33, 59, 70, 111]) (fun y : Nat × Hold => ([(1, .int .i64 f), (2, .pointer (some ⟨100, 0, none⟩)), (5, .int .i64 (sideOf (c f.toNat))), (6, slH 101 (stepK c f (sideOf (c f.toNat)) y.1).length y.2), (9, .slice (some ⟨102, 0, none⟩) (hitL f (sideOf (c f.toNat)) 2).length cap0), (10, .int .i64 y.1)], [.cells (ints .i64 69 c) 24, slB 3 (isL (stepK c f (sideOf (c f.toNat)) y.1)) y.2, .cells (isL (hitL f (sideOf (c f.toNat)) 2) ++ tl0) 3])) (fun y => y.1 ≤ (hitL f (sideOf (c f.toNat)) 2).length ∧ slOk 1 (stepK c f (sideOf (c f.toNat)) y.1).length (isL (stepK c f (sideOf (c f.toNat)) y.1)) y.2) (fun y => (hitL f (sideOf (c f.toNat)) 2).length - y.1) (0, h) (by kernel_rfl) ?_ ?_ (fun y hk => (fun hln (hqk : y.1 < _ → _) => ?_) (stepK_len c f (sideOf (c f.toNat)) y.1) (fun hlt => hq _ (iAt_mem hlt)))) | ((with_reducible refine app_k ?_); refine app_hold (X := Tz z) (i := 1) (e := 3) (sz := 1) (b := 8) (m := 1) (h := none) (con := isL []) (n := 0) (zc := [.int .i64 0]) (news := [.int .i64 (atSq (f % 8) (f / 8 + upOf (sideOf (c f.toNat))))]) (by kernel_rfl) (by kernel_rfl) rfl (by simp [Pl.int]) (src_own (j := 2) rfl (by kernel_rfl) rfl) rfl rfl (by decide) rfl ⟨rfl, rfl⟩ (by omega) (by omega) (fun tl cap hcap => ⟨?_, ?_⟩)) | ((with_reducible refine app_k ?_); refine app_hold (X := Tz z) (i := 1) (e := 3) (sz := 1) (b := 8) (m := 1) (h := h) (con := isL [atSq (f % 8) (f / 8 + upOf (sideOf (c f.toNat)))]) (n := 1) (zc := [.int .i64 0]) (news := [.int .i64 (atSq (f % 8) (f / 8 + 2 * upOf (sideOf (c f.toNat))))]) (by kernel_rfl) (by kernel_rfl) rfl (by simp [Pl.int]) (src_own (j := 2) rfl (by kernel_rfl) rfl) rfl rfl (by decide) rfl hk1 (by omega) (by omega) (fun tl cap hcap => ⟨?_, ?_⟩)) | ((with_reducible refine app_k ?_); refine app_hold (X := Tz z) (i := 1) (e := 3) (sz := 1) (b := 8) (m := 1) (h := y.2) (con := isL (stepK c f (sideOf (c f.toNat)) y.1)) (n := (stepK c f (sideOf (c f.toNat)) y.1).length) (zc := [.int .i64 0]) (news := [.int .i64 (iAt (hitL f (sideOf (c f.toNat)) 2) y.1)]) (by kernel_rfl) (by kernel_rfl) rfl (by simp [Pl.int]) (src_own (j := 3) rfl (by kernel_rfl) rfl) rfl rfl (by decide) rfl hk.2 (by omega) (by omega) (fun tl cap hcap => ⟨?_, ?_⟩)) | with_reducible refine draw (by kernel_rfl) (by kernel_rfl) ?_ | with_reducible refine call_p (sideOf_ok) ?_ | with_reducible refine qG_call (sideOf_ok) ?_ | with_reducible refine zG_call (sideOf_ok) ?_ | with_reducible refine yG_call (sideOf_ok) ?_ | with_reducible refine piG_call (sideOf_ok) ?_ | with_reducible refine call_p (at_ok (by omega) (by omega)) ?_ | with_reducible refine qG_call (at_ok (by omega) (by omega)) ?_ | with_reducible refine zG_call (at_ok (by omega) (by omega)) ?_ | with_reducible refine yG_call (at_ok (by omega) (by omega)) ?_ | with_reducible refine piG_call (at_ok (by omega) (by omega)) ?_ | with_reducible refine call_p (file_ok (by omega)) ?_ | with_reducible refine qG_call (file_ok (by omega)) ?_ | with_reducible refine zG_call (file_ok (by omega)) ?_ | with_reducible refine yG_call (file_ok (by omega)) ?_ | with_reducible refine piG_call (file_ok (by omega)) ?_ | with_reducible refine call_p (rank_ok (by omega) (by omega)) ?_ | with_reducible refine qG_call (rank_ok (by omega) (by omega)) ?_ | with_reducible refine zG_call (rank_ok (by omega) (by omega)) ?_ | with_reducible refine yG_call (rank_ok (by omega) (by omega)) ?_ | with_reducible refine piG_call (rank_ok (by omega) (by omega)) ?_ | with_reducible refine call_p (up_ok (by omega) (by omega)) ?_ | with_reducible refine qG_call (up_ok (by omega) (by omega)) ?_ | with_reducible refine zG_call (up_ok (by omega) (by omega)) ?_ | with_reducible refine yG_call (up_ok (by omega) (by omega)) ?_ | with_reducible refine piG_call (up_ok (by omega) (by omega)) ?_ | with_reducible refine seq_k fun K hK => ?_ | (with_reducible refine hK _ _ ?_; clear hK) | with_reducible refine gd_dec (fun hh => ?_) (fun hh => ?_) | with_reducible refine gd_ndec (fun hh => ?_) (fun hh => ?_) | with_reducible refine qC_dec (fun hh => ?_) (fun hh => ?_) | with_reducible refine qC_ndec (fun hh => ?_) (fun hh => ?_) | with_reducible refine piC_dec (fun hh => ?_) (fun hh => ?_) | with_reducible refine piC_ndec (fun hh => ?_) (fun hh => ?_) | with_reducible refine zC_dec (fun hh => ?_) (fun hh => ?_) | with_reducible refine zC_ndec (fun hh => ?_) (fun hh => ?_) | with_reducible refine zD_dec (fun hh => ?_) (fun hh => ?_) | with_reducible refine yC_dec (fun hh => ?_) (fun hh => ?_) | with_reducible refine yC_ndec (fun hh => ?_) (fun hh => ?_) | with_reducible refine if_dec (fun hh => ?_) (fun hh => ?_) | with_reducible refine if_ndec (fun hh => ?_) (fun hh => ?_) | simp -implicitDefEqProofs (disch := first | omega | assumption) only [go_sem, ↓reduceIte, Nat.reduceEqDiff, Int.reduceEq, Nat.reduceAdd, Nat.reduceSub, Nat.reduceMul, Nat.mul_one, Nat.one_mul, List.length_nil, List.length_cons, List.nil_append, List.cons_append, List.length_append, List.set_cons_zero, List.set_cons_succ, Nat.zero_add, Nat.sub_zero, Option.isNone_none, Option.isNone_some, Int.toNat_natCast, Nat.add_sub_cancel_left, Bool.not_true, Bool.not_false, BitVec.reduceOfInt, Int.reduceToNat, isL_g] | with_reducible refine gd_bool (fun hh => ?_) (fun hh => ?_) | with_reducible refine if_bool (fun hh => ?_) (fun hh => ?_) | with_reducible refine qC_bool (fun hh => ?_) (fun hh => ?_) | with_reducible refine piC_bool (fun hh => ?_) (fun hh => ?_) | with_reducible refine zC_bool (fun hh => ?_) (fun hh => ?_) | with_reducible refine zD_bool (fun hh => ?_) (fun hh => ?_) | with_reducible refine yC_bool (fun hh => ?_) (fun hh => ?_) | clear hK)
  all_goals first
    | exact VS.holex (L := [.cells (ints .i64 69 c) 24]) (by simp) ⟨plW (ints_pl _ _ _), trivial⟩ (by simp [subW, Fr.get, slH, wf_int, wf_pt, wf_nils])
    | exact ⟨Nat.zero_le _, by simpa [stepK, takeL] using hk2⟩
    | (refine VS.sub2 ?_ (by simp [stepK, takeL])
       simp [Fr.sub, Fr.get, stepK, takeL]; done)
    | (refine ⟨some (tl, cap), by simpa [isL] using hcap, VS.mvx 1 1 (by decide) (by simp) (by simp) (by simp) (by simp) ?_ (by simp [eqX]) ?_ ?_⟩
       · simp [slB, isL]
       · exact ⟨plO _ (ints_pl _ _ _), slB_C (isL_plx _) (h := some (tl, cap)) (by simpa [isL] using hcap), trivial⟩
       · simp [mvF, Fr.get, slH, mvS, wf_int, wf_bool, wf_sl, wf_pt, wf_nils, wf_str]; done)
    | (refine ⟨some (tl, cap), by simpa [isL] using hcap, VS.mvx 1 3 (by decide) (by simp) (by simp) (by simp) (by simp) ?_ (by simp [eqX]) ?_ ?_⟩
       · simp [slB, isL]
       · exact ⟨plO _ (ints_pl _ _ _), slB_C (isL_plx _) (h := some (tl, cap)) (by simpa [isL] using hcap), trivial⟩
       · simp [mvF, Fr.get, slH, mvS, wf_int, wf_bool, wf_sl, wf_pt, wf_nils, wf_str]; done)
    | (have e : advL c f (sideOf (c f.toNat)) = [atSq (f % 8) (f / 8 + upOf (sideOf (c f.toNat))), atSq (f % 8) (f / 8 + 2 * upOf (sideOf (c f.toNat)))] := by
        unfold advL; rw [if_pos ⟨by omega, by assumption⟩, if_pos ⟨by omega, by assumption⟩]
       rw [e]
       first
         | (refine ⟨some (tl, cap), by simpa [isL] using hcap, VS.mvx 1 1 (by decide) (by simp) (by simp) (by simp) (by simp) ?_ (by simp [eqX]) ?_ ?_⟩
            · simp [slB, isL]
            · exact ⟨plO _ (ints_pl _ _ _), slB_C (isL_plx _) (h := some (tl, cap)) (by simpa [isL] using hcap), trivial⟩
            · simp [mvF, Fr.get, slH, mvS, wf_int, wf_bool, wf_sl, wf_pt, wf_nils, wf_str]; done)
         | (refine ⟨some (tl, cap), by simpa [isL] using hcap, VS.mvx 1 3 (by decide) (by simp) (by simp) (by simp) (by simp) ?_ (by simp [eqX]) ?_ ?_⟩
            · simp [slB, isL]
            · exact ⟨plO _ (ints_pl _ _ _), slB_C (isL_plx _) (h := some (tl, cap)) (by simpa [isL] using hcap), trivial⟩
            · simp [mvF, Fr.get, slH, mvS, wf_int, wf_bool, wf_sl, wf_pt, wf_nils, wf_str]; done))
    | (have e : advL c f (sideOf (c f.toNat)) = [atSq (f % 8) (f / 8 + upOf (sideOf (c f.toNat)))] := by
        unfold advL; rw [if_pos ⟨by omega, by assumption⟩, if_neg (by rintro ⟨h1, h2⟩; first | omega | contradiction)]
       rw [e]
       exact ⟨h, hk1, VS.sub2 (by simp [Fr.sub, Fr.get]) rfl⟩)
    | (have e : advL c f (sideOf (c f.toNat)) = [] := by
        unfold advL; rw [if_neg (by rintro ⟨h1, h2⟩; first | omega | contradiction)]
       rw [e]
       exact ⟨none, ⟨rfl, rfl⟩, VS.sub2 (by simp [Fr.sub, Fr.get]) rfl⟩)
    | (have hlt : y.1 < (hitL f (sideOf (c f.toNat)) 2).length := by omega
       have e := stepK_yes (c := c) hlt (by unfold takeP; omega)
       first
         | (refine ⟨(y.1 + 1, some (tl, cap)), ⟨by simp only; omega, by rw [e]; simpa [isL] using hcap⟩, by simp only; omega, VS.mvx 1 1 (by decide) (by simp) (by simp) (by simp) (by simp) ?_ (by simp [eqX]) ?_ ?_⟩
            · simp [slB, isL, e]
            · exact ⟨plO _ (ints_pl _ _ _), slB_C (isL_plx _) (h := some (tl, cap)) (by rw [e]; simpa [isL] using hcap), plO _ (pl_app (isL_plx _) ht0), trivial⟩
            · simp only [e]; simp [mvF, Fr.get, slH, mvS, wf_int, wf_bool, wf_sl, wf_pt, wf_nils, wf_str]; done)
         | (refine ⟨(y.1 + 1, some (tl, cap)), ⟨by simp only; omega, by rw [e]; simpa [isL] using hcap⟩, by simp only; omega, VS.mvx 1 4 (by decide) (by simp) (by simp) (by simp) (by simp) ?_ (by simp [eqX]) ?_ ?_⟩
            · simp [slB, isL, e]
            · exact ⟨plO _ (ints_pl _ _ _), slB_C (isL_plx _) (h := some (tl, cap)) (by rw [e]; simpa [isL] using hcap), plO _ (pl_app (isL_plx _) ht0), trivial⟩
            · simp only [e]; simp [mvF, Fr.get, slH, mvS, wf_int, wf_bool, wf_sl, wf_pt, wf_nils, wf_str]; done))
    | (have hlt : y.1 < (hitL f (sideOf (c f.toNat)) 2).length := by omega
       have e := stepK_no (c := c) hlt (by unfold takeP; omega)
       refine ⟨(y.1 + 1, y.2), ⟨by simp only; omega, by rw [e]; exact hk.2⟩, by simp only; omega, VS.sub2 ?_ (by rw [e])⟩
       simp only [e]; simp [Fr.sub, Fr.get]; done)
    | (have e : stepK c f (sideOf (c f.toNat)) y.1 = stepL c f := by
        rw [show y.1 = (hitL f (sideOf (c f.toNat)) 2).length by omega, stepK, List.take_length]; rfl
       rw [e] at hk ⊢
       exact ⟨y.2, hk.2, VS.outH (p := 1) rfl (isL_plx _) hk.2⟩)
end Go.Tb
end
section
namespace Go.Tb
open Go Go.Proofs
variable {z : Nat × Nat}
set_option maxRecDepth 20000
abbrev M3 := Int × Int × Int
def mB (m : M3) : List Value := [.int .i64 m.1, .int .i64 m.2.1, .int .i64 m.2.2]
def msL (l : List M3) : List Value := l.flatMap mB
theorem msL_nil : msL [] = [] := rfl
theorem msL_app (a b : List M3) : msL (a ++ b) = msL a ++ msL b := by simp [msL]
theorem msL_one (m : M3) : msL [m] = mB m := by simp [msL]
theorem msL_pl (l : List M3) : ∀ v ∈ msL l, Pl v := by
  intro v hv
  simp only [msL, mB, List.mem_flatMap, List.mem_cons, List.not_mem_nil, or_false] at hv
  obtain ⟨m, _, rfl | rfl | rfl⟩ := hv <;> exact Pl.int
theorem msL_len (l : List M3) : (msL l).length = l.length * 3 := by
  induction l with
  | nil => rfl
  | cons m l ih => simp only [msL, List.flatMap_cons, List.length_append, mB, List.length_cons, List.length_nil] at ih ⊢; omega
def mAt (l : List M3) (i : Nat) : M3 := l.getD i (0, 0, 0)
theorem mAt_get {l : List M3} {i : Nat} (h : i < l.length) : l[i]? = some (mAt l i) := by simp [mAt, List.getD_eq_getElem?_getD, h]
theorem mAt_mem {l : List M3} {i : Nat} (h : i < l.length) : mAt l i ∈ l := List.mem_of_getElem? (mAt_get h)
theorem msL_split {l : List M3} {i : Nat} (h : i < l.length) : msL l = msL (l.take i) ++ (mB (mAt l i) ++ msL (l.drop (i + 1))) := by
  conv => lhs; rw [← List.take_append_drop i l]
  rw [msL_app]
  congr 1
  have e : l.drop i = mAt l i :: l.drop (i + 1) := by
    rw [List.drop_eq_getElem_cons h]
    congr 1
    have := mAt_get h
    rw [List.getElem?_eq_getElem h] at this
    exact Option.some.inj this
  rw [e]; simp [msL]
theorem msL_sub {l : List M3} {tl : List Value} {i : Nat} (h : i < l.length) : sub (msL l ++ tl) (i * 3) 3 = some (mB (mAt l i)) := by
  have hl : (msL (l.take i)).length = i * 3 := by rw [msL_len, List.length_take]; omega
  unfold sub
  rw [if_pos (by rw [List.length_append, msL_len]; omega), msL_split h, List.append_assoc, List.drop_append, List.drop_of_length_le (by omega), hl, Nat.sub_self, List.drop_zero, List.nil_append]
  rfl
theorem msL_g {l : List M3} {tl : List Value} {i j : Nat} (h : i < l.length) (hj : j < 3) : (msL l ++ tl)[i * 3 + j]? = (mB (mAt l i))[j]? := by
  have hl : (msL (l.take i)).length = i * 3 := by rw [msL_len, List.length_take]; omega
  rw [msL_split h, List.append_assoc, List.getElem?_append_right (by omega), hl, Nat.add_sub_cancel_left, List.append_assoc, List.getElem?_append_left (by simpa [mB] using hj)]
theorem msL_g0 {l : List M3} {tl : List Value} {i : Nat} (h : i < l.length) : (msL l ++ tl)[i * 3]? = some (.int .i64 (mAt l i).1) := msL_g (j := 0) h (by decide)
theorem msL_g00 {l : List M3} {tl : List Value} {i : Nat} (h : i < l.length) : (msL l ++ tl)[i * 3 + 0]? = some (.int .i64 (mAt l i).1) := msL_g (j := 0) h (by decide)
theorem msL_g1 {l : List M3} {tl : List Value} {i : Nat} (h : i < l.length) : (msL l ++ tl)[i * 3 + 1]? = some (.int .i64 (mAt l i).2.1) := msL_g (j := 1) h (by decide)
theorem msL_g2 {l : List M3} {tl : List Value} {i : Nat} (h : i < l.length) : (msL l ++ tl)[i * 3 + 2]? = some (.int .i64 (mAt l i).2.2) := msL_g (j := 2) h (by decide)
def btw (k r : Int) (j : Nat) : Prop := (k < j ∧ (j : Int) < r) ∨ (r < j ∧ (j : Int) < k)
def cW (r : Int) : Int := if homeR r < homeK r then -1 else 1
def castP (c : Nat → Int) (r : Nat) : Prop := bitI (rightsN c 4) r = 1 ∧ attB c (homeK r) (1 - c 64) = false ∧ attB c (homeK r + cW r) (1 - c 64) = false ∧ ∀ j : Nat, btw (homeK r) (homeR r) j → c j = 0
open Classical in
noncomputable def castK (c : Nat → Int) (r0 : Nat) : Nat → List M3
  | 0 => []
  | k + 1 => castK c r0 k ++ if castP c (r0 + k) then [(homeK (r0 + k : Nat), homeK (r0 + k : Nat) + 2 * cW (r0 + k : Nat), 0)] else []
noncomputable def castL (c : Nat → Int) : List M3 := castK c (2 * c 64).toNat 2
theorem cW_lt {r : Int} (h : homeR r < homeK r) : cW r = -1 := if_pos h
theorem cW_ge {r : Int} (h : ¬ homeR r < homeK r) : cW r = 1 := if_neg h
theorem castK_len (c : Nat → Int) (r0 : Nat) : ∀ k, (castK c r0 k).length ≤ k
  | 0 => Nat.le_refl 0
  | k + 1 => by
    have := castK_len c r0 k
    simp only [castK]; split <;> simp <;> omega
theorem castK_yes {c : Nat → Int} {r0 k : Nat} (h : castP c (r0 + k)) : castK c r0 (k + 1) = castK c r0 k ++ [(homeK (r0 + k : Nat), homeK (r0 + k : Nat) + 2 * cW (r0 + k : Nat), 0)] := by
  simp only [castK]; rw [if_pos h]
theorem castK_no {c : Nat → Int} {r0 k : Nat} (h : ¬ castP c (r0 + k)) : castK c r0 (k + 1) = castK c r0 k := by
  simp only [castK]; rw [if_neg h, List.append_nil]
theorem home_facts {r : Nat} (h : r < 4) : (homeK r = 4 ∨ homeK r = 60) ∧ ((cW r = 1 ∧ homeR r = homeK r + 3) ∨ (cW r = -1 ∧ homeR r = homeK r - 4)) := by
  have : r = 0 ∨ r = 1 ∨ r = 2 ∨ r = 3 := by omega
  rcases this with rfl | rfl | rfl | rfl <;> decide
def freeP (c : Nat → Int) (r : Nat) (i : Int) : Prop := attB c (homeK r + cW r) (1 - c 64) = false ∧ ∀ j : Nat, btw (homeK r) i j → c j = 0
open Classical in
noncomputable def freeB (c : Nat → Int) (r : Nat) (i : Int) : Bool := decide (freeP c r i)
theorem freeB_iff {c : Nat → Int} {r : Nat} {i : Int} : freeB c r i = true ↔ freeP c r i := by unfold freeB; exact @decide_eq_true_iff _ (Classical.propDecidable _)
theorem freeB_0 {c : Nat → Int} {r : Nat} (h : r < 4) : freeB c r (homeK r + cW r) = !attB c (homeK r + cW r) (1 - c 64) := by
  have hf := home_facts h
  unfold freeB freeP
  cases ha : attB c (homeK r + cW r) (1 - c 64)
  · simp only [Bool.not_false, decide_eq_true_eq, true_and]
    intro j hj; unfold btw at hj; omega
  · simp
theorem freeB_S {c : Nat → Int} {r : Nat} {i : Int} (h : r < 4) (h0 : 0 ≤ i) (hi : btw (homeK r) (homeR r) i.toNat) : freeB c r (i + cW r) = (freeB c r i && decide (c i.toNat = 0)) := by
  have hf := home_facts h
  unfold freeB freeP
  rw [Bool.eq_iff_iff]
  simp only [decide_eq_true_eq, Bool.and_eq_true]
  unfold btw at *
  constructor
  · rintro ⟨h1, h2⟩
    exact ⟨⟨h1, fun j hj => h2 j (by omega)⟩, h2 _ (by omega)⟩
  · rintro ⟨⟨h1, h2⟩, h3⟩
    refine ⟨h1, fun j hj => ?_⟩
    by_cases e : (j : Int) = i
    · rw [show j = i.toNat by omega]; exact h3
    · exact h2 j (by omega)
theorem bit_of {n : Int} {k : Nat} (h : 0 ≤ n ∧ n ≤ 15) : bitI n k = 0 ∨ bitI n k = 1 := by unfold bitI; omega
attribute [local irreducible] band bshr bshl homeK homeR rightsN cW attB in
set_option maxHeartbeats 4000000 in
theorem castles_ok (c : Nat → Int) (hb : Bd c) (h64 : 0 ≤ c 64 ∧ c 64 ≤ 1) (h65 : 0 ≤ c 65 ∧ c 65 ≤ 15) : FnM (Tz z) 56 [posV c] [] (fun h : Hold => slOk 3 (castL c).length (msL (castL c)) h) (slH 100 (castL c).length) (slM 38 (msL (castL c))) := by
  refine ⟨by simp [posV_pl, Pl.wf], by simp, ?_, CallM.shiftX (start [0, 1, 2, 3, 4, 5, 6, 7, 8, 9, 18, 39, 42, 57, 69] Tryz.func56 rfl (by decide) rfl (by kernel_rfl) (by simp [Tryz.f56]) ?_)⟩
  · rintro (_ | ⟨tl, cap⟩) h o ho
    · simp [slM] at ho
    · simp only [slM, List.length_nil, List.drop_zero, List.mem_cons, List.not_mem_nil, or_false] at ho; subst ho; rfl
  simp only [Tryz.f56]
  unfold posV
  have hr4 := rightsN_bd c (k := 4) (Nat.le_refl 4)
  repeat' (first | with_reducible refine loop (c := Code.seq (Code.seq (Code.region 3 _ _) _) _) (V := [0, 1, 2, 3, 4, 5, 6, 7, 8, 9, 18, 39, 42, 57, 69]) (fun y : Nat × Hold => ([(1, .pointer (some ⟨100, 0, none⟩)), (3, slH 101 (castK c (2 * c 64).toNat y.1).length y.2), (4, .int .i64 (((2 * c 64).toNat + y.1 : Nat) : Int))], [.cells (ints .i64 69 c) 24, slB 38 (msL (castK c (2 * c 64).toNat y.1)) y.2])) (fun y => y.1 ≤ 2 ∧ slOk 3 (castK c (2 * c 64).toNat y.1).length (msL (castK c (2 * c 64).toNat y.1)) y.2) (fun y => 2 - y.1) (0, none) (by kernel_rfl) ?_ ?_ (fun y hk => (fun hln (mk : True) => ?_) (castK_len c (2 * c 64).toNat y.1) trivial) | (with_reducible refine seq_i (a := Code.seq (Code.region 8 _ _) _) [(1, .pointer (some ⟨100, 0, none⟩)), (3, slH 101 (castK c (2 * c 64).toNat y.1).length y.2), (4, .int .i64 (((2 * c 64).toNat + y.1 : Nat) : Int)), (5, .int .i64 (homeK (((2 * c 64).toNat + y.1 : Nat) : Int))), (6, .int .i64 (homeR (((2 * c 64).toNat + y.1 : Nat) : Int))), (7, .int .i64 (cW (((2 * c 64).toNat + y.1 : Nat) : Int)))] [.cells (ints .i64 69 c) 24, slB 38 (msL (castK c (2 * c 64).toNat y.1)) y.2] ?_ (fun K hJ => ?_)) | (have hf := home_facts (r := ((2 * c 64).toNat + y.1)) (by omega); clear mk) | (with_reducible refine loop (c := Code.seq (Code.seq (Code.region 12 _ _) _) _) (V := [0, 1, 2, 3, 4, 5, 6, 7, 8, 9, 18, 39, 42, 57, 69]) (fun i : Int => ([(1, .pointer (some ⟨100, 0, none⟩)), (3, slH 101 (castK c (2 * c 64).toNat y.1).length y.2), (4, .int .i64 (((2 * c 64).toNat + y.1 : Nat) : Int)), (5, .int .i64 (homeK (((2 * c 64).toNat + y.1 : Nat) : Int))), (6, .int .i64 (homeR (((2 * c 64).toNat + y.1 : Nat) : Int))), (7, .int .i64 (cW (((2 * c 64).toNat + y.1 : Nat) : Int))), (8, .bool (freeB c ((2 * c 64).toNat + y.1) i)), (9, .int .i64 i)], [.cells (ints .i64 69 c) 24, slB 38 (msL (castK c (2 * c 64).toNat y.1)) y.2])) (fun i => 0 ≤ i ∧ i < 64 ∧ ((homeK (((2 * c 64).toNat + y.1 : Nat) : Int) < i ∧ i ≤ homeR (((2 * c 64).toNat + y.1 : Nat) : Int)) ∨ (homeR (((2 * c 64).toNat + y.1 : Nat) : Int) ≤ i ∧ i < homeK (((2 * c 64).toNat + y.1 : Nat) : Int)))) (fun i => (homeR (((2 * c 64).toNat + y.1 : Nat) : Int) - i).natAbs) (homeK (((2 * c 64).toNat + y.1 : Nat) : Int) + cW (((2 * c 64).toNat + y.1 : Nat) : Int)) (by kernel_rfl) ?_ ?_ (fun i hi => ?_)) | ((with_reducible refine app_k ?_); refine app_hold (X := Tz z) (i := 1) (e := 38) (sz := 3) (b := 24) (m := 1) (h := y.2) (con := msL (castK c (2 * c 64).toNat y.1)) (n := (castK c (2 * c 64).toNat y.1).length) (zc := [.int .i64 0, .int .i64 0, .int .i64 0]) (news := mB (homeK (((2 * c 64).toNat + y.1 : Nat) : Int), homeK (((2 * c 64).toNat + y.1 : Nat) : Int) + 2 * cW (((2 * c 64).toNat + y.1 : Nat) : Int), 0)) (by kernel_rfl) (by kernel_rfl) rfl (by simp [Pl.int]) (src_own (j := 2) rfl (by kernel_rfl) rfl) rfl rfl (by decide) rfl hk.2 (by omega) (by omega) (fun tl cap hcap => ⟨?_, ?_⟩)) | (with_reducible refine hJ _ _ ?_; clear hJ) | with_reducible refine call_p (home_ok (by omega)) ?_ | with_reducible refine qG_call (home_ok (by omega)) ?_ | with_reducible refine zG_call (home_ok (by omega)) ?_ | with_reducible refine yG_call (home_ok (by omega)) ?_ | with_reducible refine piG_call (home_ok (by omega)) ?_ | with_reducible refine call_p (rights_ok c (by omega)) ?_ | with_reducible refine qG_call (rights_ok c (by omega)) ?_ | with_reducible refine zG_call (rights_ok c (by omega)) ?_ | with_reducible refine yG_call (rights_ok c (by omega)) ?_ | with_reducible refine piG_call (rights_ok c (by omega)) ?_ | with_reducible refine call_p (attacked_ok c (by omega) (by omega) hb) ?_ | with_reducible refine qG_call (attacked_ok c (by omega) (by omega) hb) ?_ | with_reducible refine zG_call (attacked_ok c (by omega) (by omega) hb) ?_ | with_reducible refine yG_call (attacked_ok c (by omega) (by omega) hb) ?_ | with_reducible refine piG_call (attacked_ok c (by omega) (by omega) hb) ?_ | with_reducible refine seq_k fun K hK => ?_ | (with_reducible refine hK _ _ ?_; clear hK) | with_reducible refine gd_dec (fun hh => ?_) (fun hh => ?_) | with_reducible refine gd_ndec (fun hh => ?_) (fun hh => ?_) | with_reducible refine qC_dec (fun hh => ?_) (fun hh => ?_) | with_reducible refine qC_ndec (fun hh => ?_) (fun hh => ?_) | with_reducible refine piC_dec (fun hh => ?_) (fun hh => ?_) | with_reducible refine piC_ndec (fun hh => ?_) (fun hh => ?_) | with_reducible refine zC_dec (fun hh => ?_) (fun hh => ?_) | with_reducible refine zC_ndec (fun hh => ?_) (fun hh => ?_) | with_reducible refine zD_dec (fun hh => ?_) (fun hh => ?_) | with_reducible refine yC_dec (fun hh => ?_) (fun hh => ?_) | with_reducible refine yC_ndec (fun hh => ?_) (fun hh => ?_) | with_reducible refine if_dec (fun hh => ?_) (fun hh => ?_) | with_reducible refine if_ndec (fun hh => ?_) (fun hh => ?_) | simp -implicitDefEqProofs (disch := first | omega | assumption) only [go_sem, ↓reduceIte, Nat.reduceEqDiff, Int.reduceEq, Nat.reduceAdd, Nat.reduceSub, Nat.reduceMul, Nat.mul_one, Nat.one_mul, List.length_nil, List.length_cons, List.nil_append, List.cons_append, List.length_append, List.set_cons_zero, List.set_cons_succ, Nat.zero_add, Nat.sub_zero, Option.isNone_none, Option.isNone_some, Int.toNat_natCast, Nat.add_sub_cancel_left, Bool.not_true, Bool.not_false, BitVec.reduceOfInt, Int.reduceToNat, bit_eq, pickV_T, pickV_F, onGd_T, onGd_F] | with_reducible refine gd_bool (fun hh => ?_) (fun hh => ?_) | with_reducible refine if_bool (fun hh => ?_) (fun hh => ?_) | with_reducible refine qC_bool (fun hh => ?_) (fun hh => ?_) | with_reducible refine piC_bool (fun hh => ?_) (fun hh => ?_) | with_reducible refine zC_bool (fun hh => ?_) (fun hh => ?_) | with_reducible refine zD_bool (fun hh => ?_) (fun hh => ?_) | with_reducible refine yC_bool (fun hh => ?_) (fun hh => ?_) | clear hK)
  all_goals first
    | exact ⟨Nat.zero_le _, by simp [slOk, castK, msL]⟩
    | exact VS.trans (VS.holex (L := [.cells (ints .i64 69 c) 24]) (fr' := [(1, .pointer (some ⟨100, 0, none⟩)), (3, slH 101 0 none), (4, .int .i64 (2 * c 64))]) (by simp) ⟨plW (ints_pl _ _ _), trivial⟩ (by simp [subW, Fr.get, slH, wf_int, wf_pt, wf_nils])) (VS.of_eq (by simp [castK, slB]; omega))
    | (have hp : ¬ castP c ((2 * c 64).toNat + y.1) := by
        rintro ⟨h1, h2, h3, h4⟩
        first
          | omega
          | (have h5 : freeB c ((2 * c 64).toNat + y.1) i = true := freeB_iff.2 ⟨h3, by rw [show i = homeR (((2 * c 64).toNat + y.1 : Nat) : Int) by omega]; exact h4⟩
             simp_all; done)
          | (simp_all; done)
       have e := castK_no hp
       refine ⟨(y.1 + 1, y.2), ⟨by simp only; omega, by rw [e]; exact hk.2⟩, by simp only; omega, VS.sub2 ?_ (by rw [e])⟩
       simp only [e]; simp [Fr.sub, Fr.get]; (try omega); done)
    | omega
    | (rw [freeB_0 (by omega)]; exact VS.sub2 (by simp [Fr.sub, Fr.get]) rfl)
    | (have e := freeB_S (c := c) (r := ((2 * c 64).toNat + y.1)) (i := i) (by omega) (by omega) (by unfold btw; omega)
       refine ⟨i + cW (((2 * c 64).toNat + y.1 : Nat) : Int), by omega, by omega, VS.sub2 ?_ rfl⟩
       rw [e]
       simp [Fr.sub, Fr.get, *]; done)
    | (have hw := cW_lt (r := (((2 * c 64).toNat + y.1 : Nat) : Int)) (by assumption)
       exact VS.sub2 (by simp only [Fr.sub, Fr.get, ↓reduceIte, Nat.reduceEqDiff, hw, and_self]) rfl)
    | (have hw := cW_ge (r := (((2 * c 64).toNat + y.1 : Nat) : Int)) (by assumption)
       exact VS.sub2 (by simp only [Fr.sub, Fr.get, ↓reduceIte, Nat.reduceEqDiff, hw, and_self]) rfl)
    | (have hi2 : i = homeR (((2 * c 64).toNat + y.1 : Nat) : Int) := by omega
       have hfr : freeP c ((2 * c 64).toNat + y.1) i := freeB_iff.1 (by assumption)
       have hp : castP c ((2 * c 64).toNat + y.1) := ⟨by have := bit_of (k := ((2 * c 64).toNat + y.1)) hr4; omega, by assumption, hfr.1, by rw [← hi2]; exact hfr.2⟩
       have e := castK_yes hp
       have hcap' : slOk 3 (castK c (2 * c 64).toNat (y.1 + 1)).length (msL (castK c (2 * c 64).toNat (y.1 + 1))) (some (tl, cap)) := by
        rw [e, msL_app, msL_one, List.length_append]; exact hcap
       first
         | (refine ⟨(y.1 + 1, some (tl, cap)), ⟨by simp only; omega, hcap'⟩, by simp only; omega, VS.mvx 1 1 (by decide) (by simp) (by simp) (by simp) (by simp) ?_ (by simp [eqX]) ?_ ?_⟩
            · simp [slB, msL_app, msL_one, e]
            · exact ⟨plO _ (ints_pl _ _ _), slB_C (msL_pl _) hcap', trivial⟩
            · simp only [e]; simp [mvF, Fr.get, slH, mvS, wf_int, wf_bool, wf_sl, wf_pt, wf_nils, wf_str]; (try omega); done)
         | (refine ⟨(y.1 + 1, some (tl, cap)), ⟨by simp only; omega, hcap'⟩, by simp only; omega, VS.mvx 1 3 (by decide) (by simp) (by simp) (by simp) (by simp) ?_ (by simp [eqX]) ?_ ?_⟩
            · simp [slB, msL_app, msL_one, e]
            · exact ⟨plO _ (ints_pl _ _ _), slB_C (msL_pl _) hcap', trivial⟩
            · simp only [e]; simp [mvF, Fr.get, slH, mvS, wf_int, wf_bool, wf_sl, wf_pt, wf_nils, wf_str]; (try omega); done))
    | (have e : castK c (2 * c 64).toNat y.1 = castL c := by
        rw [show y.1 = 2 by omega]; rfl
       rw [e] at hk ⊢
       exact ⟨y.2, hk.2, VS.outH (p := 1) rfl (msL_pl _) hk.2⟩)
end Go.Tb
end
section
namespace Go.Tb
open Go Go.Proofs
variable {z : Nat × Nat}
set_option maxRecDepth 20000
theorem src_tl {X : Cx} {L : List AO} {j m k sz tx : Nat} {news tl : List Value} {T : TypeId} (h : L[j]? = some (.cells (news ++ tl) T)) (hs : isSl X.P tx = true) (hm : news.length = m * sz) : srcM X.P (X.pad ++ L) sz tx (.slice (some ⟨100 + j, 0, none⟩) m k) = some (m, news) := by
  unfold srcM
  simp only [hs, if_true]
  rw [rdS_own h hm]; rfl
theorem src_hold {X : Cx} {L : List AO} {j m sz tx : Nat} {con : List Value} {T : TypeId} {h : Hold} (hL : L[j]? = some (slB T con h)) (hs : isSl X.P tx = true) (hok : slOk sz m con h) : srcM X.P (X.pad ++ L) sz tx (slH (100 + j) m h) = some (m, con) := by
  cases h with
  | none => obtain ⟨rfl, rfl⟩ := hok; exact src_nil hs
  | some p => exact src_tl hL hs hok.1
theorem app_holdG {X : Cx} {t tx e sz b n m i : Nat} {x : Value} {zc con news : List Value} {h : Hold} {L : List AO} {K : Value → List AO → Prop} (hsl : tSl X.P t = some (e, sz, b)) (hz : tZero X.P e = some zc) (hzl : zc.length = sz) (hzp : ∀ v ∈ zc, Pl v)
    (hsrc : srcM X.P (X.pad ++ L) sz tx x = some (m, news)) (h1 : news.all one = true) (hn : news.length = m * sz) (hL : L[i]? = some (slB e con h)) (hok : slOk sz n con h) (hb1 : (n + m) * b ≤ 140737488355328) (hb2 : n + m ≤ 9223372036854775807)
    (hk0 : h = none → m = 0 → K (.slice none 0 0) L)
    (hk : ∀ tl cap, slOk sz (n + m) (con ++ news) (some (tl, cap)) → K (.slice (some ⟨100 + i, 0, none⟩) (n + m) cap) (L.set i (.cells (con ++ news ++ tl) e)) ∧ K (.slice (some ⟨100 + L.length, 0, none⟩) (n + m) cap) (L ++ [.cells (con ++ news ++ tl) e])) :
    app2 X L [slH (100 + i) n h, x] [t, tx] K := by
  rcases Nat.eq_zero_or_pos m with hm | hm
  · subst hm
    have hnil : news = [] := List.eq_nil_of_length_eq_zero (by omega)
    subst hnil
    cases h with
    | none =>
      obtain ⟨rfl, rfl⟩ := hok
      refine app_nil hsl hz hzl hsrc h1 hn (fun _ => hk0 rfl rfl) fun hp => absurd hp (by omega)
    | some p =>
      obtain ⟨tl, cap⟩ := p
      obtain ⟨o1, o2, o3, o4⟩ := hok
      refine app_own hsl hz hzl hsrc h1 hn hL o1 o2 o3 (fun hr => ?_) fun hc => absurd o3 (by omega)
      exact (hk tl cap ⟨by rw [List.append_nil, Nat.add_zero]; exact o1, by rw [List.append_nil]; exact o2, by omega, o4⟩).1
  · exact app_hold hsl hz hzl hzp hsrc h1 hn hm hL hok hb1 hb2 hk
theorem mB_one (m : M3) : (mB m).all one = true := rfl
theorem msL_one' (l : List M3) : (msL l).all one = true := by
  rw [List.all_eq_true]
  intro v hv
  simp only [msL, mB, List.mem_flatMap, List.mem_cons, List.not_mem_nil, or_false] at hv
  obtain ⟨m, _, rfl | rfl | rfl⟩ := hv <;> rfl
theorem msL_set {l : List M3} {k : Nat} {m : M3} (h : k < l.length) : msL (l.set k m) = msL (l.take k) ++ (mB m ++ msL (l.drop (k + 1))) := by
  have hk : k < (l.set k m).length := by simpa using h
  rw [msL_split hk]
  have e1 : (l.set k m).take k = l.take k := by rw [List.take_set_of_le (Nat.le_refl k)]
  have e2 : (l.set k m).drop (k + 1) = l.drop (k + 1) := by rw [List.drop_set_of_lt (by omega)]
  have e3 : mAt (l.set k m) k = m := by simp [mAt, List.getD_eq_getElem?_getD, h]
  rw [e1, e2, e3]
theorem spl_mid (a b b' c : List Value) (h : b'.length = b.length) : spl (a ++ (b ++ c)) a.length b' = a ++ (b' ++ c) := by
  rw [spl_eq (by simp; omega), List.take_left', ← List.drop_drop, List.drop_left', h, List.drop_left', List.append_assoc]
  all_goals rfl
theorem spl_ms {l : List M3} {tl : List Value} {k : Nat} {m : M3} (h : k < l.length) : spl (msL l ++ tl) (k * 3) (mB m) = msL (l.set k m) ++ tl := by
  have hl : (msL (l.take k)).length = k * 3 := by rw [msL_len, List.length_take]; omega
  rw [msL_set h]
  conv => lhs; rw [msL_split h]
  rw [List.append_assoc, List.append_assoc, ← hl, spl_mid _ _ _ _ (by simp [mB])]
  simp only [List.append_assoc]
theorem wr_ms {l : List M3} {tl : List Value} {T : TypeId} {L : List AO} {i k : Nat} {m : M3} (h : k < l.length) : wrC (some (.cells (msL l ++ tl) T)) L i 3 (k * 3) (mB m) = some (L.set i (.cells (msL (l.set k m) ++ tl) T)) := by
  rw [wrC_in (s := 3) rfl rfl (by simp [msL_len]; omega), spl_ms h]
theorem wr_ms2 {l : List M3} {tl : List Value} {T : TypeId} {L : List AO} {i k j : Nat} {m m' : M3} (h : k < l.length) : wrC (some (.cells (msL (l.set j m') ++ tl) T)) L i 3 (k * 3) (mB m) = some (L.set i (.cells (msL ((l.set j m').set k m) ++ tl) T)) := wr_ms (by simpa using h)
theorem toNat_pred {n : Nat} : (((n + 1 : Nat) : Int) - 1).toNat = n := by omega
def befM (a b : M3) : Bool := befB a.1 a.2.1 a.2.2 b.1 b.2.1 b.2.2
theorem before_okM (a b : M3) : FnP (Tz z) 81 [.agg (mB a).toArray, .agg (mB b).toArray] (.bool (befM a b)) := before_ok _ _ _ _ _ _
def swpL (l : List M3) (k : Nat) : List M3 := (l.set (k + 1) (mAt l k)).set k (mAt l (k + 1))
def insK : List M3 → Nat → List M3
  | l, 0 => l
  | l, k + 1 => if befM (mAt l (k + 1)) (mAt l k) = true then insK (swpL l k) k else l
def ordK (l : List M3) : Nat → List M3
  | 0 => l
  | i + 1 => insK (ordK l i) (i + 1)
def ordL (l : List M3) : List M3 := ordK l (l.length - 1)
theorem swpL_len (l : List M3) (k : Nat) : (swpL l k).length = l.length := by simp [swpL]
theorem insK_len : ∀ (k : Nat) (l : List M3), (insK l k).length = l.length
  | 0, _ => rfl
  | k + 1, l => by
    simp only [insK]; split
    · rw [insK_len k, swpL_len]
    · rfl
theorem ordK_len (l : List M3) : ∀ i, (ordK l i).length = l.length
  | 0 => rfl
  | i + 1 => by rw [ordK, insK_len, ordK_len l i]
theorem ordL_len (l : List M3) : (ordL l).length = l.length := ordK_len l _
theorem slOk_len {sz n : Nat} {con con' : List Value} {p : List Value × Nat} (h : slOk sz n con (some p)) (hl : con'.length = con.length) : slOk sz n con' (some p) :=
  ⟨by rw [hl]; exact h.1, by rw [List.length_append, hl, ← List.length_append]; exact h.2.1, h.2.2⟩
theorem insK_yes {l : List M3} {k : Nat} (h : befM (mAt l (k + 1)) (mAt l k) = true) : insK l (k + 1) = insK ((l.set (k + 1) (mAt l k)).set k (mAt l (k + 1))) k := by simp only [insK]; rw [if_pos h]; rfl
theorem insK_no {l : List M3} {k : Nat} (h : befM (mAt l (k + 1)) (mAt l k) = false) : insK l (k + 1) = l := by simp only [insK]; rw [if_neg (by simp [h])]
attribute [local irreducible] befM in
set_option maxHeartbeats 4000000 in
theorem ordered_ok (l : List M3) (h0 : Hold) (hl : l.length ≤ 100000) (hk0 : slOk 3 l.length (msL l) h0) : FnM (Tz z) 55 [slH 100 l.length h0] [slB 38 (msL l) h0] (fun p : List Value × Nat => slOk 3 l.length (msL (ordL l)) (some p)) (fun p => slH 101 l.length (some p)) (fun p => [slB 38 (msL l) h0, .cells (msL (ordL l) ++ p.1) 38]) := by
  refine ⟨?_, ?_, ?_, CallM.shiftX (start [0, 2, 3, 4, 5, 12, 29] Tryz.func55 rfl (by decide) rfl (by kernel_rfl) (by simp [Tryz.f55]) ?_)⟩
  · intro u hu
    simp only [List.mem_cons, List.not_mem_nil, or_false] at hu; subst hu
    cases h0 with
    | none => exact wf_nils
    | some p => exact wf_sl (by simp)
  · intro o ho
    simp only [List.mem_cons, List.not_mem_nil, or_false] at ho; subst ho
    exact (slB_C (σ := fun i => i) (msL_pl _) hk0).2
  · rintro p hp o ho
    simp at ho; subst ho; rfl
  simp only [Tryz.f55]
  repeat' (first | (with_reducible refine seq_y (a := Code.region 1 _ _) (fun p : List Value × Nat => ([(3, .slice (some ⟨101, 0, none⟩) l.length p.2)], [slB 38 (msL l) h0, .cells (msL l ++ p.1) 38])) (fun p => slOk 3 l.length (msL l) (some p)) (fun p hp => ?_) (fun K hJ => ?_)) | ((with_reducible refine app_k ?_); refine app_holdG (X := Tz z) (i := 1) (e := 38) (sz := 3) (b := 24) (m := l.length) (h := some ([], 0)) (con := []) (n := 0) (zc := [.int .i64 0, .int .i64 0, .int .i64 0]) (news := msL l) (by kernel_rfl) (by kernel_rfl) rfl (by simp [Pl.int]) (src_hold (j := 0) (T := 38) rfl (by kernel_rfl) hk0) (msL_one' _) (msL_len _) rfl ⟨rfl, rfl, Nat.le_refl 0, by simp⟩ (by omega) (by omega) (fun h => by cases h) (fun tl cap hcap => ⟨?_, ?_⟩)) | (with_reducible refine loop (c := Code.seq (Code.seq (Code.region 3 _ _) _) _) (V := [0, 2, 3, 4, 5, 12, 29]) (fun j : Nat => ([(3, .slice (some ⟨101, 0, none⟩) l.length p.2), (4, .int .i64 ((j : Int) + 1))], [slB 38 (msL l) h0, .cells (msL (ordK l j) ++ p.1) 38])) (fun j => j = 0 ∨ j + 1 ≤ l.length) (fun j => l.length - j) 0 (by kernel_rfl) (.inl rfl) ?_ (fun j hj => ?_)) | ((with_reducible refine loop (c := Code.seq (Code.seq (Code.region 6 _ _) _) _) (V := [0, 2, 3, 4, 5, 12, 29]) (fun v : Nat × List M3 => ([(3, .slice (some ⟨101, 0, none⟩) l.length p.2), (4, .int .i64 ((j : Int) + 1)), (5, .int .i64 v.1)], [slB 38 (msL l) h0, .cells (msL v.2 ++ p.1) 38])) (fun v => insK v.2 v.1 = ordK l (j + 1) ∧ v.2.length = l.length ∧ v.1 ≤ j + 1) (fun v => v.1) (j + 1, ordK l j) (by kernel_rfl) ⟨rfl, ordK_len l j, Nat.le_refl _⟩ ?_ ?_); rotate_left; intro v hv; obtain ⟨k, l1⟩ := v; obtain ⟨hv1, hv2, hv3⟩ := hv; simp only at hv1 hv2 hv3; rcases k with _ | k) | (with_reducible refine hJ _ _ ?_; clear hJ) | with_reducible refine draw4 (id := 8) [.q, .q, .q, .q, .q, .q, .q, .q, .q, .r, .q, .q, .q, .r, .q, .e [], .q, .e []] [false, false, false, false, false, false, false, false, false, false, false, false, false, false, false, true, false, true] (by kernel_rfl) (by kernel_rfl) (by kernel_rfl) ?_ | with_reducible refine draw (by kernel_rfl) (by kernel_rfl) ?_ | with_reducible apply pz_e | with_reducible apply pz_eg | with_reducible apply py_e | with_reducible refine call_p (before_okM _ _) ?_ | with_reducible refine qG_call (before_okM _ _) ?_ | with_reducible refine zG_call (before_okM _ _) ?_ | with_reducible refine yG_call (before_okM _ _) ?_ | with_reducible refine piG_call (before_okM _ _) ?_ | with_reducible refine seq_k fun K hK => ?_ | (with_reducible refine hK _ _ ?_; clear hK) | with_reducible refine gd_dec (fun hh => ?_) (fun hh => ?_) | with_reducible refine gd_ndec (fun hh => ?_) (fun hh => ?_) | with_reducible refine qC_dec (fun hh => ?_) (fun hh => ?_) | with_reducible refine qC_ndec (fun hh => ?_) (fun hh => ?_) | with_reducible refine piC_dec (fun hh => ?_) (fun hh => ?_) | with_reducible refine piC_ndec (fun hh => ?_) (fun hh => ?_) | with_reducible refine zC_dec (fun hh => ?_) (fun hh => ?_) | with_reducible refine zC_ndec (fun hh => ?_) (fun hh => ?_) | with_reducible refine zD_dec (fun hh => ?_) (fun hh => ?_) | with_reducible refine yC_dec (fun hh => ?_) (fun hh => ?_) | with_reducible refine yC_ndec (fun hh => ?_) (fun hh => ?_) | with_reducible refine if_dec (fun hh => ?_) (fun hh => ?_) | with_reducible refine if_ndec (fun hh => ?_) (fun hh => ?_) | simp -implicitDefEqProofs (disch := first | omega | assumption) only [go_sem, ↓reduceIte, Nat.reduceEqDiff, Int.reduceEq, Nat.reduceAdd, Nat.reduceSub, Nat.reduceMul, Nat.mul_one, Nat.one_mul, List.length_nil, List.length_cons, List.nil_append, List.cons_append, List.length_append, List.set_cons_zero, List.set_cons_succ, Nat.zero_add, Nat.sub_zero, Option.isNone_none, Option.isNone_some, Int.toNat_natCast, Nat.add_sub_cancel_left, Bool.not_true, Bool.not_false, BitVec.reduceOfInt, Int.reduceToNat, msL_sub, msL_g0, msL_g00, toNat_pred, wr_ms, wr_ms2] | with_reducible refine gd_bool (fun hh => ?_) (fun hh => ?_) | with_reducible refine if_bool (fun hh => ?_) (fun hh => ?_) | with_reducible refine qC_bool (fun hh => ?_) (fun hh => ?_) | with_reducible refine piC_bool (fun hh => ?_) (fun hh => ?_) | with_reducible refine zC_bool (fun hh => ?_) (fun hh => ?_) | with_reducible refine zD_bool (fun hh => ?_) (fun hh => ?_) | with_reducible refine yC_bool (fun hh => ?_) (fun hh => ?_) | clear hK)
  all_goals first
    | exact VS.sub2 (by simp [Fr.sub, Fr.get]) rfl
    | (refine ⟨(k, _), ⟨by rw [← hv1, insK_yes (by assumption)], by simpa using hv2, by omega⟩, by simp only; omega, VS.sub2 ?_ rfl⟩
       simp [Fr.sub, Fr.get]; done)
    | (have e : l1 = ordK l (j + 1) := hv1
       refine ⟨j + 1, by omega, by omega, VS.sub2 ?_ (by rw [e])⟩
       simp [Fr.sub, Fr.get]; done)
    | (have e : l1 = ordK l (j + 1) := by rw [← hv1, insK_no (by assumption)]
       refine ⟨j + 1, by omega, by omega, VS.sub2 ?_ (by rw [e])⟩
       simp [Fr.sub, Fr.get]; done)
    | exact ⟨(tl, cap), by simpa using hcap, VS.sub2 (by simp [Fr.sub, Fr.get]) rfl⟩
    | (refine ⟨(tl, cap), by simpa using hcap, VS.mvx 1 2 (by decide) (by simp) (by simp) (by simp) (by simp) ?_ (by simp [eqX]) ?_ ?_⟩
       · rfl
       · exact ⟨slB_C (msL_pl _) hk0, plO _ (pl_app (msL_pl _) hcap.2.2.2), trivial⟩
       · simp [mvF, Fr.get, slH, mvS, wf_int, wf_bool, wf_sl, wf_pt, wf_nils, wf_str]; done)
    | (have e : ordK l j = ordL l := by rw [ordL, show j = l.length - 1 by omega]
       rw [e]
       exact ⟨p, slOk_len hp (by rw [msL_len, msL_len, ordL_len]), VS.refl _⟩)
end Go.Tb
end
section
namespace Go.Tb
open Go Go.Proofs
variable {z : Nat × Nat}
set_option maxRecDepth 20000
def tgtL (c : Nat → Int) (f : Int) : List Int := if kindOf (c f.toNat) = 6 then stepL c f else reachL c f
def promL (f t : Int) : Nat → List M3
  | 0 => []
  | q + 1 => promL f t q ++ [(f, t, (q : Int) + 2)]
def movL (c : Nat → Int) (f t : Int) : List M3 :=
  if c t.toNat ≠ 0 ∧ sideOf (c t.toNat) = c 64 then [] else if kindOf (c f.toNat) ≠ 6 ∨ t / 8 ≠ 7 - 7 * c 64 then [(f, t, 0)] else promL f t 4
def psqK (c : Nat → Int) (f : Int) : Nat → List M3
  | 0 => []
  | i + 1 => psqK c f i ++ movL c f (iAt (tgtL c f) i)
def ownP (c : Nat → Int) (k : Nat) : Prop := c k ≠ 0 ∧ sideOf (c k) = c 64
instance (c : Nat → Int) (k : Nat) : Decidable (ownP c k) := by unfold ownP; infer_instance
def pseuK (c : Nat → Int) : Nat → List M3
  | 0 => []
  | k + 1 => pseuK c k ++ if ownP c k then psqK c k (tgtL c k).length else []
noncomputable def pseuL (c : Nat → Int) : List M3 := ordL (pseuK c 64 ++ castL c)
theorem tgt_s {c : Nat → Int} {k : Nat} (h : kindOf (c k) = 6) : stepL c k = tgtL c k := (if_pos (show kindOf (c (k : Int).toNat) = 6 by rw [Int.toNat_natCast]; exact h)).symm
theorem tgt_r {c : Nat → Int} {k : Nat} (h : ¬ kindOf (c k) = 6) : reachL c k = tgtL c k := (if_neg (show ¬ kindOf (c (k : Int).toNat) = 6 by rw [Int.toNat_natCast]; exact h)).symm
theorem promL_len (f t : Int) : ∀ q, (promL f t q).length = q
  | 0 => rfl
  | q + 1 => by simp [promL, promL_len f t q]
theorem movL_len (c : Nat → Int) (f t : Int) : (movL c f t).length ≤ 4 := by
  unfold movL; split
  · simp
  · split
    · simp
    · rw [promL_len]; omega
theorem psqK_len (c : Nat → Int) (f : Int) : ∀ i, (psqK c f i).length ≤ 4 * i
  | 0 => Nat.le_refl 0
  | i + 1 => by
    have h1 := psqK_len c f i
    have h2 := movL_len c f (iAt (tgtL c f) i)
    simp only [psqK, List.length_append]; omega
theorem reachL_len (c : Nat → Int) (f : Int) : (reachL c f).length ≤ 56 := by
  have h1 := reachW_len c f (wayF (kindOf (c f.toNat))) (wayL (kindOf (c f.toNat)))
  have h2 := way_len (kindOf (c f.toNat))
  unfold reachL; omega
theorem stepL_len (c : Nat → Int) (f : Int) : (stepL c f).length ≤ 56 := by
  have h1 := stepK_len c f (sideOf (c f.toNat)) (hitL f (sideOf (c f.toNat)) 2).length
  unfold stepK at h1; rw [List.take_length] at h1
  unfold stepL; omega
theorem tgtL_len (c : Nat → Int) (f : Int) : (tgtL c f).length ≤ 56 := by
  unfold tgtL; split
  · exact stepL_len c f
  · exact reachL_len c f
theorem pseuK_len (c : Nat → Int) : ∀ k, (pseuK c k).length ≤ 224 * k
  | 0 => Nat.le_refl 0
  | k + 1 => by
    have h1 := pseuK_len c k
    have h2 := psqK_len c k (tgtL c k).length
    have h3 := tgtL_len c k
    simp only [pseuK, List.length_append]
    split
    · omega
    · simp; omega
theorem rayF_bd (c : Nat → Int) (f r dx dy : Int) (far : Bool) : ∀ k n, ∀ q ∈ rayF c f r dx dy far n k, 0 ≤ q ∧ q < 64
  | 0, _, q, h => by cases h
  | k + 1, n, q, h => by
    simp only [rayF] at h
    split at h
    · cases h
    · rename_i h0
      rcases List.mem_cons.1 h with rfl | h
      · exact ⟨by omega, atSq_lt _ _⟩
      · split at h
        · cases h
        · exact rayF_bd c f r dx dy far k (n + 1) q h
theorem reachL_bd (c : Nat → Int) (f : Int) : ∀ q ∈ reachL c f, 0 ≤ q ∧ q < 64 := by
  intro q hq
  simp only [reachL, reachW, List.mem_flatMap] at hq
  obtain ⟨d, _, hd⟩ := hq
  exact rayF_bd _ _ _ _ _ _ _ _ q hd
theorem advL_bd (c : Nat → Int) {f s : Int} (hf : 0 ≤ f ∧ f ≤ 63) (hs : 0 ≤ s ∧ s ≤ 1) : ∀ q ∈ advL c f s, 0 ≤ q ∧ q < 64 := by
  intro q hq
  unfold advL at hq
  split at hq
  · rename_i h
    rcases List.mem_cons.1 hq with rfl | hq
    · exact ⟨h.1, atSq_lt _ _⟩
    · split at hq
      · rename_i h2
        simp only [List.mem_cons, List.not_mem_nil, or_false] at hq; subst hq
        exact atSq_bd (by omega) (by unfold upOf; omega)
      · cases hq
  · cases hq
theorem stepL_bd (c : Nat → Int) {f : Int} (hf : 0 ≤ f ∧ f ≤ 63) : ∀ q ∈ stepL c f, 0 ≤ q ∧ q < 64 := by
  intro q hq
  rcases List.mem_append.1 hq with h | h
  · exact advL_bd c hf (sideOf_bd _) q h
  · exact hitL_bd _ _ 2 q (List.mem_filter.1 h).1
theorem tgtL_bd (c : Nat → Int) {f : Int} (hf : 0 ≤ f ∧ f ≤ 63) : ∀ q ∈ tgtL c f, 0 ≤ q ∧ q < 64 := by
  unfold tgtL; split
  · exact stepL_bd c hf
  · exact reachL_bd c f
theorem pseuK_no {c : Nat → Int} {k : Nat} (h : ¬ ownP c k) : pseuK c (k + 1) = pseuK c k := by simp only [pseuK]; rw [if_neg h, List.append_nil]
theorem pseuK_yes {c : Nat → Int} {k : Nat} (h : ownP c k) : pseuK c (k + 1) = pseuK c k ++ psqK c k (tgtL c k).length := by simp only [pseuK]; rw [if_pos h]
theorem movL_own {c : Nat → Int} {f t : Int} (h : c t.toNat ≠ 0 ∧ sideOf (c t.toNat) = c 64) : movL c f t = [] := if_pos h
theorem movL_one {c : Nat → Int} {f t : Int} (h : ¬ (c t.toNat ≠ 0 ∧ sideOf (c t.toNat) = c 64)) (h2 : kindOf (c f.toNat) ≠ 6 ∨ t / 8 ≠ 7 - 7 * c 64) : movL c f t = [(f, t, 0)] := (if_neg h).trans (if_pos h2)
theorem movL_prom {c : Nat → Int} {f t : Int} (h : ¬ (c t.toNat ≠ 0 ∧ sideOf (c t.toNat) = c 64)) (h2 : ¬ (kindOf (c f.toNat) ≠ 6 ∨ t / 8 ≠ 7 - 7 * c 64)) : movL c f t = promL f t 4 := (if_neg h).trans (if_neg h2)
def accI (c : Nat → Int) (k i : Nat) : List M3 := pseuK c k ++ psqK c k i
def accQ (c : Nat → Int) (k i q : Nat) : List M3 := accI c k i ++ promL k (iAt (tgtL c k) i) q
theorem accI_0 (c : Nat → Int) (k : Nat) : accI c k 0 = pseuK c k := by simp [accI, psqK]
theorem accQ_0 (c : Nat → Int) (k i : Nat) : accQ c k i 0 = accI c k i := by simp [accQ, promL]
theorem accQ_S (c : Nat → Int) (k i q : Nat) : accQ c k i (q + 1) = accQ c k i q ++ [((k : Int), iAt (tgtL c k) i, (q : Int) + 2)] := by simp [accQ, promL]
theorem accI_S (c : Nat → Int) (k i : Nat) : accI c k (i + 1) = accI c k i ++ movL c k (iAt (tgtL c k) i) := by simp [accI, psqK]
theorem accI_end {c : Nat → Int} {k : Nat} (h : ownP c k) : pseuK c (k + 1) = accI c k (tgtL c k).length := pseuK_yes h
theorem accI_len {c : Nat → Int} {k i : Nat} (hk : k ≤ 64) (hi : i ≤ 56) : (accI c k i).length ≤ 20000 := by
  have h1 := pseuK_len c k
  have h2 := psqK_len c k i
  unfold accI; rw [List.length_append]; omega
theorem accQ_len {c : Nat → Int} {k i q : Nat} (hk : k ≤ 64) (hi : i ≤ 56) (hq : q ≤ 4) : (accQ c k i q).length ≤ 30000 := by
  have h1 := accI_len (c := c) hk hi
  unfold accQ; rw [List.length_append, promL_len]; omega
theorem accI_own {c : Nat → Int} {k i : Nat} (h : c (iAt (tgtL c k) i).toNat ≠ 0 ∧ sideOf (c (iAt (tgtL c k) i).toNat) = c 64) : accI c k (i + 1) = accI c k i := by rw [accI_S, movL_own h, List.append_nil]
theorem accI_one {c : Nat → Int} {k i : Nat} (h : ¬ (c (iAt (tgtL c k) i).toNat ≠ 0 ∧ sideOf (c (iAt (tgtL c k) i).toNat) = c 64)) (h2 : kindOf (c k) ≠ 6 ∨ iAt (tgtL c k) i / 8 ≠ 7 - 7 * c 64) : accI c k (i + 1) = accI c k i ++ [((k : Int), iAt (tgtL c k) i, 0)] := by
  rw [accI_S, movL_one h (by rw [Int.toNat_natCast]; exact h2)]
theorem accI_prom {c : Nat → Int} {k i : Nat} (h : ¬ (c (iAt (tgtL c k) i).toNat ≠ 0 ∧ sideOf (c (iAt (tgtL c k) i).toNat) = c 64)) (h2 : ¬ (kindOf (c k) ≠ 6 ∨ iAt (tgtL c k) i / 8 ≠ 7 - 7 * c 64)) : accI c k (i + 1) = accQ c k i 4 := by
  rw [accI_S, movL_prom h (by rw [Int.toNat_natCast]; exact h2)]; rfl
theorem castL_len (c : Nat → Int) : (castL c).length ≤ 2 := castK_len _ _ 2
theorem plR {c : List Value} {T : TypeId} {σ : Nat → Nat} (h : ∀ v ∈ c, Pl v) : rnO σ (.cells c T) = .cells c T := (plO (n := 0) σ h).1
theorem slB_R {σ : Nat → Nat} {T : TypeId} {con : List Value} {h : Hold} {sz k : Nat} (hc : ∀ v ∈ con, Pl v) (hok : slOk sz k con h) : rnO σ (slB T con h) = slB T con h := (slB_C (n := 0) hc hok).1
theorem pb_p {o : AO} {σ : Nat → Nat} {L : List AO} {j : Nat} (h : L[j]? = some o) (hr : rnO σ o = o) : fitL σ L [j] [o] := ⟨by rw [hr]; exact h, trivial⟩
theorem fix_ord {j n : Nat} {L : List AO} {o : AO} {c : List Value} {T : TypeId} (h : L[j]? = some o) (hr : rnO (sig [j] n) o = o) (hc : ∀ v ∈ c, Pl v) : fixL (sig [j] n) L [j] [o, .cells c T] = L ++ [.cells c T] := by
  have e : c.map (rl (sig [j] n)) = c := by
    conv => rhs; rw [← List.map_id c]
    exact List.map_congr_left fun v hv => hc v hv _
  show setAll (L.set j (rnO (sig [j] n) o)) [] _ ++ [AO.cells (c.map (rl (sig [j] n))) T] = _
  rw [e, hr]
  congr 1
  show L.set j o = L
  apply List.ext_getElem?
  intro k
  rw [List.getElem?_set]
  split
  · rename_i e; subst e; rw [if_pos (List.getElem?_eq_some_iff.1 h).1, h]
  · rfl
theorem rl_slP {j n k : Nat} {p : List Value × Nat} : rl (sig [j] n) (slH 101 k (some p)) = slH (100 + n) k (some p) := by
  obtain ⟨tl, cap⟩ := p; simp [slH, sig]
theorem ordered_ok0 : FnM (Tz z) 55 [slH 100 0 none] [slB 38 (msL []) none] (fun p : List Value × Nat => slOk 3 0 (msL (ordL [])) (some p)) (fun p => slH 101 0 (some p)) (fun p => [slB 38 (msL []) none, .cells (msL (ordL []) ++ p.1) 38]) := ordered_ok [] none (by simp) ⟨rfl, rfl⟩
theorem rl_sl1 {j n k cap : Nat} : rl (sig [j] n) (.slice (some ⟨101, 0, none⟩) k cap) = .slice (some ⟨100 + n, 0, none⟩) k cap := by simp [sig]
theorem rl_sl2 {j n k cap : Nat} : rl (sig [j] n) (.slice (some ⟨100, 0, none⟩) k cap) = .slice (some ⟨100 + j, 0, none⟩) k cap := by simp [sig]
end Go.Tb
end
