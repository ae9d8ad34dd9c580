/-
  A part of the proof (my own): of the texts that the claim's last text rests on: parts H3, I0, I1, I2.
-/
import Derived.Test.YtigjokkakcmmdaaGreatDoorT14
set_option linter.unusedSimpArgs false
set_option linter.unusedVariables false
section
namespace Go.Tb
open Go Go.Proofs
variable {z : Nat × Nat}
set_option maxRecDepth 20000
theorem fix_w {n : Nat} {L : List AO} {w : List (Int × Int)} {tl : List Value} (h : ∀ v ∈ tl, Pl v) : fixL (sig [] n) L [] [.cells (prL w ++ tl) 122] = L ++ [.cells (prL w ++ tl) 122] := by
  have e : (prL w ++ tl).map (rl (sig [] n)) = prL w ++ tl := by
    conv => rhs; rw [← List.map_id (prL w ++ tl)]
    exact List.map_congr_left fun v hv => (pl_app (prL_pl w) h) v hv _
  show setAll L [] _ ++ [AO.cells ((prL w ++ tl).map (rl (sig [] n))) 122] = _
  rw [e]; rfl
theorem rl_w {n cap : Nat} {b : Bool} : rl (sig [] 1) (.tuple #[.slice (some ⟨100, 0, none⟩) n cap, .bool b]) = .tuple #[.slice (some ⟨101, 0, none⟩) n cap, .bool b] := by simp [sig]
def rayF (c : Nat → Int) (f r dx dy : Int) (far : Bool) : Nat → Nat → List Int
  | _, 0 => []
  | n, k + 1 => if atSq (f + n * dx) (r + n * dy) < 0 then [] else atSq (f + n * dx) (r + n * dy) :: if far = false ∨ c (atSq (f + n * dx) (r + n * dy)).toNat ≠ 0 then [] else rayF c f r dx dy far (n + 1) k
def rayD (c : Nat → Int) (fm : Int) (far : Bool) (d : Int × Int) : List Int := rayF c (fm % 8) (fm / 8) d.1 d.2 far 1 7
def reachW (c : Nat → Int) (fm : Int) (far : Bool) (w : List (Int × Int)) : List Int := w.flatMap (rayD c fm far)
def reachL (c : Nat → Int) (fm : Int) : List Int := reachW c fm (wayF (kindOf (c fm.toNat))) (wayL (kindOf (c fm.toNat)))
def wAt (w : List (Int × Int)) (i : Nat) : Int × Int := w.getD i (0, 0)
theorem prL_get : ∀ (w : List (Int × Int)) (tl : List Value) (i : Nat), i < w.length → (prL w ++ tl)[i * 2]? = some (.int .i64 (wAt w i).1) ∧ (prL w ++ tl)[i * 2 + 1]? = some (.int .i64 (wAt w i).2)
  | [], _, _, h => by simp at h
  | p :: w, tl, 0, _ => by simp [prL, wAt]
  | p :: w, tl, i + 1, h => by
    have := prL_get w tl i (by simpa using h)
    rw [show (i + 1) * 2 = i * 2 + 2 by omega]
    simpa [prL, wAt] using this
theorem prL_g0 {w : List (Int × Int)} {tl : List Value} {i : Nat} (h : i < w.length) : (prL w ++ tl)[i * 2 + 0]? = some (.int .i64 (wAt w i).1) := (prL_get w tl i h).1
theorem prL_g1 {w : List (Int × Int)} {tl : List Value} {i : Nat} (h : i < w.length) : (prL w ++ tl)[i * 2 + 1]? = some (.int .i64 (wAt w i).2) := (prL_get w tl i h).2
theorem way_all (k : Int) : ∀ p ∈ wayL k, (-2 ≤ p.1 ∧ p.1 ≤ 2) ∧ (-2 ≤ p.2 ∧ p.2 ≤ 2) := by
  unfold wayL strL slaL jmpL; (repeat' split) <;> decide
theorem wAt_bd (k : Int) (i : Nat) : (-2 ≤ (wAt (wayL k) i).1 ∧ (wAt (wayL k) i).1 ≤ 2) ∧ (-2 ≤ (wAt (wayL k) i).2 ∧ (wAt (wayL k) i).2 ≤ 2) := by
  unfold wAt
  rcases Nat.lt_or_ge i (wayL k).length with h | h
  · rw [List.getD_eq_getElem?_getD, List.getElem?_eq_getElem h]; exact way_all k _ (List.getElem_mem h)
  · rw [List.getD_eq_getElem?_getD, List.getElem?_eq_none h]; decide
theorem mul_bd {n : Nat} {d : Int} (hn : n ≤ 8) (hd : -2 ≤ d ∧ d ≤ 2) : -16 ≤ (n : Int) * d ∧ (n : Int) * d ≤ 16 := by
  have : d = -2 ∨ d = -1 ∨ d = 0 ∨ d = 1 ∨ d = 2 := by omega
  rcases this with rfl | rfl | rfl | rfl | rfl <;> omega
theorem rayF_len (c : Nat → Int) (f r dx dy : Int) (far : Bool) : ∀ k n, (rayF c f r dx dy far n k).length ≤ k
  | 0, _ => Nat.le_refl 0
  | k + 1, n => by
    have := rayF_len c f r dx dy far k (n + 1)
    simp only [rayF]
    (repeat' split) <;> simp <;> omega
theorem reachW_len (c : Nat → Int) (fm : Int) (far : Bool) : ∀ w, (reachW c fm far w).length ≤ 7 * w.length
  | [] => Nat.le_refl 0
  | d :: w => by
    have h1 := reachW_len c fm far w
    have h2 := rayF_len c (fm % 8) (fm / 8) d.1 d.2 far 7 1
    simp only [reachW, List.flatMap_cons, List.length_append, List.length_cons, rayD] at h1 ⊢
    omega
theorem atSq_lt (f r : Int) : atSq f r < 64 := by unfold atSq; split <;> omega
theorem reach_step {c : Nat → Int} {fm : Int} {far : Bool} {w : List (Int × Int)} {i : Nat} (h : i < w.length) : reachW c fm far (w.take i) ++ rayF c (fm % 8) (fm / 8) (wAt w i).1 (wAt w i).2 far 1 7 = reachW c fm far (w.take (i + 1)) := by
  unfold reachW
  rw [List.take_add_one, List.getElem?_eq_getElem h, Option.toList_some, List.flatMap_append, List.flatMap_cons, List.flatMap_nil, List.append_nil, rayD, wAt, List.getD_eq_getElem?_getD, List.getElem?_eq_getElem h]
  rfl
theorem ray_8 {c : Nat → Int} {f r dx dy : Int} {far : Bool} {n : Nat} (h : 8 ≤ n) : rayF c f r dx dy far n (8 - n) = [] := by
  rw [show 8 - n = 0 by omega]; rfl
theorem ray_neg {c : Nat → Int} {f r dx dy : Int} {far : Bool} {n : Nat} (h : n < 8) (ha : atSq (f + n * dx) (r + n * dy) < 0) : rayF c f r dx dy far n (8 - n) = [] := by
  rw [show 8 - n = (8 - (n + 1)) + 1 by omega, rayF, if_pos ha]
theorem ray_stop {c : Nat → Int} {f r dx dy : Int} {far : Bool} {n : Nat} (h : n < 8) (ha : ¬ atSq (f + n * dx) (r + n * dy) < 0) (hb : far = false ∨ c (atSq (f + n * dx) (r + n * dy)).toNat ≠ 0) : rayF c f r dx dy far n (8 - n) = [atSq (f + n * dx) (r + n * dy)] := by
  rw [show 8 - n = (8 - (n + 1)) + 1 by omega, rayF, if_neg ha, if_pos hb]
theorem ray_on {c : Nat → Int} {f r dx dy : Int} {far : Bool} {n : Nat} (h : n < 8) (ha : ¬ atSq (f + n * dx) (r + n * dy) < 0) (hb : ¬ (far = false ∨ c (atSq (f + n * dx) (r + n * dy)).toNat ≠ 0)) : rayF c f r dx dy far n (8 - n) = atSq (f + n * dx) (r + n * dy) :: rayF c f r dx dy far (n + 1) (8 - (n + 1)) := by
  rw [show 8 - n = (8 - (n + 1)) + 1 by omega, rayF, if_neg ha, if_neg hb]
theorem way_len (k : Int) : (wayL k).length ≤ 8 := by unfold wayL strL slaL jmpL; (repeat' split) <;> decide
theorem acc_len {c : Nat → Int} {fm : Int} {far : Bool} {k : Int} {i : Nat} {a b : List Int} (h : a ++ b = reachW c fm far ((wayL k).take i)) : a.length ≤ 56 := by
  have h1 := reachW_len c fm far ((wayL k).take i)
  have h2 := way_len k
  have h3 : ((wayL k).take i).length ≤ (wayL k).length := by rw [List.length_take]; omega
  have h4 := congrArg List.length h
  rw [List.length_append] at h4
  omega
attribute [local irreducible] atSq wayF kindOf prL wAt in
set_option maxHeartbeats 2000000 in
theorem reach_ok (c : Nat → Int) {f : Int} (hf : 0 ≤ f ∧ f ≤ 63) (hc : 0 ≤ c f.toNat ∧ c f.toNat ≤ 12) : FnM (Tz z) 54 [posV c, .int .i64 f] [] (fun h : Hold => slOk 1 (reachL c f).length (isL (reachL c f)) h) (slH 100 (reachL c f).length) (slM 3 (isL (reachL c f))) := by
  refine ⟨by simp [Pl.int, Pl.wf, posV_pl], by simp, ?_, CallM.shiftX (start [0, 1, 2, 4, 5, 6, 7, 8, 9, 10, 23, 27, 52, 65] Tryz.func54 rfl (by decide) rfl (by kernel_rfl) (by simp [Tryz.f54]) ?_)⟩
  · rintro (_ | ⟨tl, cap⟩) h o ho
    · simp [slM] at ho
    · simp only [slM, List.length_nil, List.drop_zero, List.mem_cons, List.not_mem_nil, or_false] at ho; subst ho; rfl
  simp only [Tryz.f54]
  unfold posV
  have hwl := way_len (kindOf (c f.toNat))
  repeat' (first | (with_reducible first | refine call_p (kindOf_ok (by omega) (by omega)) ?_ | refine qG_call (kindOf_ok (by omega) (by omega)) ?_ | refine zG_call (kindOf_ok (by omega) (by omega)) ?_ | refine yG_call (kindOf_ok (by omega) (by omega)) ?_ | refine piG_call (kindOf_ok (by omega) (by omega)) ?_) | ((with_reducible refine call_fr (ways_ok (kindOf (c f.toNat))) [] ?_ ?_ ?_ ?_); (· kernel_rfl); (· exact trivial); (· rfl); intro xx hx; simp only [List.length_cons, List.length_nil, Nat.zero_add, Nat.reduceAdd, List.toArray, fix_w hx.2.2.2, rl_w, List.cons_append, List.nil_append]) | (with_reducible first | refine loop (c := Code.seq (Code.seq (Code.region 7 _ _) _) _) (V := [0, 1, 2, 4, 5, 6, 7, 8, 9, 10, 23, 27, 52, 65]) (fun v : Nat × List Int × Hold => ([(1, .int .i64 f), (2, .pointer (some ⟨100, 0, none⟩)), (5, .slice (some ⟨101, 0, none⟩) (wayL (kindOf (c f.toNat))).length xx.2), (6, .bool (wayF (kindOf (c f.toNat)))), (7, slH 102 v.2.1.length v.2.2), (8, .int .i64 y.1), (9, .int .i64 v.1)], [.cells (ints .i64 69 c) 24, .cells (prL (wayL (kindOf (c f.toNat))) ++ xx.1) 122, slB 3 (isL v.2.1) v.2.2])) (fun v => 1 ≤ v.1 ∧ v.1 ≤ 8 ∧ v.2.1 ++ rayF c (f % 8) (f / 8) (wAt (wayL (kindOf (c f.toNat))) y.1).1 (wAt (wayL (kindOf (c f.toNat))) y.1).2 (wayF (kindOf (c f.toNat))) v.1 (8 - v.1) = reachW c f (wayF (kindOf (c f.toNat))) ((wayL (kindOf (c f.toNat))).take (y.1 + 1)) ∧ slOk 1 v.2.1.length (isL v.2.1) v.2.2) (fun v => 8 - v.1) (1, reachW c f (wayF (kindOf (c f.toNat))) ((wayL (kindOf (c f.toNat))).take y.1), y.2) (by kernel_rfl) ?_ ?_ (fun v hv => (fun m1 m2 m3 m4 => ?_) (mul_bd hv.2.1 (wAt_bd (kindOf (c f.toNat)) y.1).1) (mul_bd hv.2.1 (wAt_bd (kindOf (c f.toNat)) y.1).2) (acc_len hv.2.2.1) (atSq_lt (f % 8 + (v.1 : Int) * (wAt (wayL (kindOf (c f.toNat))) y.1).1) (f / 8 + (v.1 : Int) * (wAt (wayL (kindOf (c f.toNat))) y.1).2))) | refine seq_y (a := Code.block 1 _) (fun h : Hold => ([(1, .int .i64 f), (2, .pointer (some ⟨100, 0, none⟩)), (5, .slice (some ⟨101, 0, none⟩) (wayL (kindOf (c f.toNat))).length xx.2), (6, .bool (wayF (kindOf (c f.toNat)))), (7, slH 102 (reachW c f (wayF (kindOf (c f.toNat))) ((wayL (kindOf (c f.toNat))).take (y.1 + 1))).length h), (8, .int .i64 y.1)], [.cells (ints .i64 69 c) 24, .cells (prL (wayL (kindOf (c f.toNat))) ++ xx.1) 122, slB 3 (isL (reachW c f (wayF (kindOf (c f.toNat))) ((wayL (kindOf (c f.toNat))).take (y.1 + 1)))) h])) (fun h => slOk 1 (reachW c f (wayF (kindOf (c f.toNat))) ((wayL (kindOf (c f.toNat))).take (y.1 + 1))).length (isL (reachW c f (wayF (kindOf (c f.toNat))) ((wayL (kindOf (c f.toNat))).take (y.1 + 1)))) h) (fun h hh1 => ?_) (fun K hJ => ?_) | refine loop (c := Code.seq (Code.seq (Code.region 4 _ _) _) _) (V := [0, 1, 2, 4, 5, 6, 7, 8, 9, 10, 23, 27, 52, 65]) (fun y : Nat × Hold => ([(1, .int .i64 f), (2, .pointer (some ⟨100, 0, none⟩)), (5, .slice (some ⟨101, 0, none⟩) (wayL (kindOf (c f.toNat))).length xx.2), (6, .bool (wayF (kindOf (c f.toNat)))), (7, slH 102 (reachW c f (wayF (kindOf (c f.toNat))) ((wayL (kindOf (c f.toNat))).take y.1)).length y.2), (8, .int .i64 y.1)], [.cells (ints .i64 69 c) 24, .cells (prL (wayL (kindOf (c f.toNat))) ++ xx.1) 122, slB 3 (isL (reachW c f (wayF (kindOf (c f.toNat))) ((wayL (kindOf (c f.toNat))).take y.1))) y.2])) (fun y => y.1 ≤ (wayL (kindOf (c f.toNat))).length ∧ slOk 1 (reachW c f (wayF (kindOf (c f.toNat))) ((wayL (kindOf (c f.toNat))).take y.1)).length (isL (reachW c f (wayF (kindOf (c f.toNat))) ((wayL (kindOf (c f.toNat))).take y.1))) y.2) (fun y => (wayL (kindOf (c f.toNat))).length - y.1) (0, none) (by kernel_rfl) ?_ ?_ (fun y hk => ?_)) | (with_reducible refine hJ _ _ ?_; clear hJ) | ((with_reducible refine app_k ?_); refine app_hold (X := Tz z) (i := 2) (e := 3) (sz := 1) (b := 8) (m := 1) (zc := [.int .i64 0]) (news := [.int .i64 (atSq (f % 8 + (v.1 : Int) * (wAt (wayL (kindOf (c f.toNat))) y.1).1) (f / 8 + (v.1 : Int) * (wAt (wayL (kindOf (c f.toNat))) y.1).2))]) (by kernel_rfl) (by kernel_rfl) rfl (by simp [Pl.int]) (src_own (j := 3) rfl (by kernel_rfl) rfl) rfl rfl (by decide) rfl hv.2.2.2 (by omega) (by omega) (fun tl cap hcap => ⟨?_, ?_⟩)) | (with_reducible first | refine draw (by kernel_rfl) (by kernel_rfl) ?_ | refine call_p (at_ok (by omega) (by omega)) ?_ | refine qG_call (at_ok (by omega) (by omega)) ?_ | refine zG_call (at_ok (by omega) (by omega)) ?_ | refine yG_call (at_ok (by omega) (by omega)) ?_ | refine piG_call (at_ok (by omega) (by omega)) ?_ | refine call_p (file_ok (by omega)) ?_ | refine qG_call (file_ok (by omega)) ?_ | refine zG_call (file_ok (by omega)) ?_ | refine yG_call (file_ok (by omega)) ?_ | refine piG_call (file_ok (by omega)) ?_ | refine call_p (rank_ok (by omega) (by omega)) ?_ | refine qG_call (rank_ok (by omega) (by omega)) ?_ | refine zG_call (rank_ok (by omega) (by omega)) ?_ | refine yG_call (rank_ok (by omega) (by omega)) ?_ | refine piG_call (rank_ok (by omega) (by omega)) ?_ | refine seq_k fun K hK => ?_) | (with_reducible refine hK _ _ ?_; clear hK) | ((with_reducible first | refine gd_dec ?_ ?_ | refine gd_ndec ?_ ?_ | refine qC_dec ?_ ?_ | refine qC_ndec ?_ ?_ | refine piC_dec ?_ ?_ | refine piC_ndec ?_ ?_ | refine zC_dec ?_ ?_ | refine zC_ndec ?_ ?_ | refine zD_dec ?_ ?_ | refine yC_dec ?_ ?_ | refine yC_ndec ?_ ?_ | refine if_dec ?_ ?_ | refine if_ndec ?_ ?_) <;> intro hh) | simp -implicitDefEqProofs (disch := first | omega | assumption) only [go_sem, ↓reduceIte, Nat.reduceEqDiff, Int.reduceEq, Nat.reduceAdd, Nat.reduceSub, Nat.reduceMul, Nat.mul_one, Nat.one_mul, List.length_nil, List.length_cons, List.nil_append, List.cons_append, List.length_append, List.set_cons_zero, List.set_cons_succ, Nat.zero_add, Nat.sub_zero, Option.isNone_none, Option.isNone_some, Int.toNat_natCast, Nat.add_sub_cancel_left, Bool.not_true, Bool.not_false, BitVec.reduceOfInt, Int.reduceToNat, prL_g0, prL_g1, pickV_T, pickV_F, onGd_T, onGd_F] | ((with_reducible first | refine gd_bool ?_ ?_ | refine if_bool ?_ ?_ | refine qC_bool ?_ ?_ | refine piC_bool ?_ ?_ | refine zC_bool ?_ ?_ | refine zD_bool ?_ ?_ | refine yC_bool ?_ ?_) <;> intro hh) | clear hK)
  all_goals first
    | exact ⟨Nat.zero_le _, by simp [slOk, reachW, isL]⟩
    | (refine VS.hole (L := [.cells (ints .i64 69 c) 24, .cells (prL (wayL (kindOf (c f.toNat))) ++ xx.1) 122]) (by simp) ?_ (subW_get ?_)
       · intro o ho
         simp only [List.mem_cons, List.not_mem_nil, or_false] at ho
         rcases ho with rfl | rfl
         · exact (plO (fun i => i) (ints_pl _ _ _)).2
         · exact (plO (fun i => i) (pl_app (prL_pl _) hx.2.2.2)).2
       · simp [subW, Fr.get, slH, reachW, wf_int, wf_nils, wf_bool, wf_sl, wf_pt]; done)
    | (refine ⟨(y.1 + 1, h), ⟨by simp only; omega, hh1⟩, by simp only; omega, VS.sub2 ?_ rfl⟩
       simp [Fr.sub, Fr.get]; done)
    | exact ⟨by omega, by omega, reach_step (by omega), hk.2⟩
    | (refine VS.sub2 ?_ rfl
       simp [Fr.sub, Fr.get]; done)
    | (have e := hv.2.2.1
       first
         | rw [ray_8 (by omega), List.append_nil] at e
         | rw [ray_neg (by omega) (by omega), List.append_nil] at e
       refine ⟨v.2.2, e ▸ hv.2.2.2, VS.sub2 ?_ (by rw [← e])⟩
       simp [Fr.sub, Fr.get, ← e]; done)
    | (have e := hv.2.2.1
       rw [ray_stop (by omega) (by assumption) (by first | (left; simpa using hh) | (right; assumption))] at e
       refine ⟨some (tl, cap), ?_, VS.mv 2 2 (by decide) (by simp) (by simp) (by simp) (by simp) ?_ ?_ ?_ ?_⟩
       · rw [← e]; simpa [isL] using hcap
       · simp [slB, ← e, isL]
       · intro k h1 h2
         have h3 : k = 0 ∨ k = 1 := by simp at h1; omega
         rcases h3 with rfl | rfl <;> rfl
       · intro o ho
         simp only [List.mem_cons, List.not_mem_nil, or_false] at ho
         rcases ho with rfl | rfl | rfl
         · exact plO _ (ints_pl _ _ _)
         · exact plO _ (pl_app (prL_pl _) hx.2.2.2)
         · exact plO _ (pl_app (isL_pl _) hcap.2.2.2)
       · simp [mvF, Fr.get, slH, mvS, ← e, wf_int, wf_bool, wf_sl, wf_pt]; done)
    | (have e := hv.2.2.1
       rw [ray_stop (by omega) (by assumption) (by first | (left; simpa using hh) | (right; assumption))] at e
       refine ⟨some (tl, cap), ?_, VS.mv 2 4 (by decide) (by simp) (by simp) (by simp) (by simp) ?_ ?_ ?_ ?_⟩
       · rw [← e]; simpa [isL] using hcap
       · simp [slB, ← e, isL]
       · intro k h1 h2
         have h3 : k = 0 ∨ k = 1 := by simp at h1; omega
         rcases h3 with rfl | rfl <;> rfl
       · intro o ho
         simp only [List.mem_cons, List.not_mem_nil, or_false] at ho
         rcases ho with rfl | rfl | rfl
         · exact plO _ (ints_pl _ _ _)
         · exact plO _ (pl_app (prL_pl _) hx.2.2.2)
         · exact plO _ (pl_app (isL_pl _) hcap.2.2.2)
       · simp [mvF, Fr.get, slH, mvS, ← e, wf_int, wf_bool, wf_sl, wf_pt]; done)
    | (have e := hv.2.2.1
       rw [ray_on (by omega) (by assumption) (by simp_all)] at e
       refine ⟨(v.1 + 1, v.2.1 ++ [atSq (f % 8 + (v.1 : Int) * (wAt (wayL (kindOf (c f.toNat))) y.1).1) (f / 8 + (v.1 : Int) * (wAt (wayL (kindOf (c f.toNat))) y.1).2)], some (tl, cap)), ⟨by simp only; omega, by simp only; omega, by simpa using e, by simpa [isL] using hcap⟩, by simp only; omega, VS.mv 2 2 (by decide) (by simp) (by simp) (by simp) (by simp) ?_ ?_ ?_ ?_⟩
       · simp [slB, isL]
       · intro k h1 h2
         have h3 : k = 0 ∨ k = 1 := by simp at h1; omega
         rcases h3 with rfl | rfl <;> rfl
       · intro o ho
         simp only [List.mem_cons, List.not_mem_nil, or_false] at ho
         rcases ho with rfl | rfl | rfl
         · exact plO _ (ints_pl _ _ _)
         · exact plO _ (pl_app (prL_pl _) hx.2.2.2)
         · exact plO _ (pl_app (isL_pl _) hcap.2.2.2)
       · simp [mvF, Fr.get, slH, mvS, wf_int, wf_bool, wf_sl, wf_pt]; done)
    | (have e := hv.2.2.1
       rw [ray_on (by omega) (by assumption) (by simp_all)] at e
       refine ⟨(v.1 + 1, v.2.1 ++ [atSq (f % 8 + (v.1 : Int) * (wAt (wayL (kindOf (c f.toNat))) y.1).1) (f / 8 + (v.1 : Int) * (wAt (wayL (kindOf (c f.toNat))) y.1).2)], some (tl, cap)), ⟨by simp only; omega, by simp only; omega, by simpa using e, by simpa [isL] using hcap⟩, by simp only; omega, VS.mv 2 4 (by decide) (by simp) (by simp) (by simp) (by simp) ?_ ?_ ?_ ?_⟩
       · simp [slB, isL]
       · intro k h1 h2
         have h3 : k = 0 ∨ k = 1 := by simp at h1; omega
         rcases h3 with rfl | rfl <;> rfl
       · intro o ho
         simp only [List.mem_cons, List.not_mem_nil, or_false] at ho
         rcases ho with rfl | rfl | rfl
         · exact plO _ (ints_pl _ _ _)
         · exact plO _ (pl_app (prL_pl _) hx.2.2.2)
         · exact plO _ (pl_app (isL_pl _) hcap.2.2.2)
       · simp [mvF, Fr.get, slH, mvS, wf_int, wf_bool, wf_sl, wf_pt]; done)
    | (have h2 : y.1 = (wayL (kindOf (c f.toNat))).length := by omega
       have e : reachW c f (wayF (kindOf (c f.toNat))) ((wayL (kindOf (c f.toNat))).take y.1) = reachL c f := by rw [h2, List.take_length]; rfl
       rw [e] at hk ⊢
       obtain ⟨i, hq⟩ := y
       refine ⟨hq, hk.2, ?_⟩
       cases hq with
       | none => exact VS.cut (L := []) (Nat.zero_le _) (by simp) wf_nils
       | some q =>
         refine VS.mv 0 2 (by decide) (by simp [slM]) (by simp) (by simp [slM]) (by simp [slM]) rfl (fun k h1 h2 => by simp [slM] at h1; omega) ?_ ⟨⟨by simp [Fr.get, slH, mvS], wf_sl (by simp [slM])⟩, trivial⟩
         intro o ho
         simp only [slM, List.mem_cons, List.not_mem_nil, or_false] at ho; subst ho
         exact plO _ (pl_app (isL_pl _) hk.2.2.2.2))
end Go.Tb
end
section
namespace Go.Tb
open Go Go.Proofs
variable {z : Nat × Nat}
set_option maxRecDepth 20000
theorem fix_sl {n : Nat} {L : List AO} {T : TypeId} {con tl : List Value} {cap : Nat} (h : ∀ v ∈ con ++ tl, Pl v) : fixL (sig [] n) L [] (slM T con (some (tl, cap))) = L ++ [.cells (con ++ tl) T] := by
  have e : (con ++ tl).map (rl (sig [] n)) = con ++ tl := by
    conv => rhs; rw [← List.map_id (con ++ tl)]
    exact List.map_congr_left fun v hv => h v hv _
  show setAll L [] _ ++ [AO.cells ((con ++ tl).map (rl (sig [] n))) T] = _
  rw [e]; rfl
theorem fix_sl0 {n : Nat} {L : List AO} {T : TypeId} {con : List Value} : fixL (sig [] n) L [] (slM T con none) = L := by
  show setAll L [] _ ++ [] = _
  rw [List.append_nil]; rfl
theorem rl_slS {n k cap : Nat} : rl (sig [] n) (.slice (some ⟨100, 0, none⟩) k cap) = .slice (some ⟨100 + n, 0, none⟩) k cap := by simp [sig]
theorem slH_some (b n : Nat) (tl : List Value) (cap : Nat) : slH b n (some (tl, cap)) = .slice (some ⟨b, 0, none⟩) n cap := rfl
theorem slH_none (b n : Nat) : slH b n none = .slice none 0 0 := rfl
theorem slB_some (T : TypeId) (con tl : List Value) (cap : Nat) : slB T con (some (tl, cap)) = .cells (con ++ tl) T := rfl
theorem hold_some {sz n : Nat} {con : List Value} {h : Hold} (hok : slOk sz n con h) (hn : n ≠ 0) : ∃ tl cap, h = some (tl, cap) ∧ ∀ v ∈ tl, Pl v := by
  cases h with
  | none => exact absurd hok.1 hn
  | some p => exact ⟨p.1, p.2, rfl, hok.2.2.2⟩
theorem isL_len (l : List Int) : (isL l).length = l.length := by simp [isL]
theorem isL_app (a b : List Int) : isL (a ++ b) = isL a ++ isL b := by simp [isL]
def iAt (l : List Int) (i : Nat) : Int := l.getD i 0
theorem iAt_get {l : List Int} {i : Nat} (h : i < l.length) : l[i]? = some (iAt l i) := by simp [iAt, List.getD_eq_getElem?_getD, h]
theorem iAt_mem {l : List Int} {i : Nat} (h : i < l.length) : iAt l i ∈ l := List.mem_of_getElem? (iAt_get h)
theorem isL_g {l : List Int} {tl : List Value} {i : Nat} (h : i < l.length) : (isL l ++ tl)[i]? = some (.int .i64 (iAt l i)) := by
  rw [List.getElem?_append_left (by rw [isL_len]; exact h), isL, List.getElem?_map, iAt_get h]; rfl
def eqX (i : Nat) : Nat → List AO → List AO → Prop
  | _, _, [] => True
  | _, [], _ :: _ => False
  | k, m :: ms, o :: os => (k = i ∨ m = o) ∧ eqX i (k + 1) ms os
theorem eqX_get {i : Nat} : ∀ {M L : List AO} {b : Nat}, eqX i b M L → ∀ k, k < L.length → b + k ≠ i → M[k]? = L[k]?
  | _, [], _, _, k, hk, _ => by simp at hk
  | [], _ :: _, _, h, _, _, _ => h.elim
  | m :: ms, o :: os, b, h, 0, _, hi => by
    rcases h.1 with h1 | h1
    · exact absurd (by omega) hi
    · rw [h1]; rfl
  | m :: ms, o :: os, b, h, k + 1, hk, hi => by
    have := eqX_get h.2 k (by simpa using hk) (by omega)
    simpa using this
def allC (σ : Nat → Nat) (n : Nat) : List AO → Prop
  | [] => True
  | o :: os => (rnO σ o = o ∧ o.wf n) ∧ allC σ n os
theorem allC_mem {σ : Nat → Nat} {n : Nat} : ∀ {L : List AO}, allC σ n L → ∀ o ∈ L, rnO σ o = o ∧ o.wf n
  | o :: os, h, p, hp => by
    cases hp with
    | head => exact h.1
    | tail _ hp => exact allC_mem h.2 p hp
theorem VS.mvx {X : Cx} {n0 : Nat} (i p : Nat) {fr fr' : Fr} {M L' : List AO} (hn : n0 ≤ i) (hi : i < L'.length) (hp : p < M.length) (hip : p = i ∨ L'.length ≤ p) (hl : L'.length ≤ M.length) (hM : M[p]? = L'[i]?)
    (hk : eqX i 0 M L') (hc : allC (mvS i p) (100 + L'.length) L') (hf : mvF i p (100 + L'.length) fr fr') : VS X n0 (fr, M) (fr', L') :=
  VS.mv i p hn hi hp hip hl hM (fun k h1 h2 => eqX_get hk k h1 (by omega)) (allC_mem hc) hf
def allW (n : Nat) : List AO → Prop
  | [] => True
  | o :: os => o.wf n ∧ allW n os
theorem allW_mem {n : Nat} : ∀ {L : List AO}, allW n L → ∀ o ∈ L, o.wf n
  | o :: os, h, p, hp => by
    cases hp with
    | head => exact h.1
    | tail _ hp => exact allW_mem h.2 p hp
theorem VS.holex {X : Cx} {n0 : Nat} {fr fr' : Fr} {L : List AO} (hn : n0 ≤ L.length) (hc : allW (100 + L.length) L) (hf : subW (100 + L.length) fr fr') : VS X n0 (fr, L) (fr', L ++ [.any]) :=
  VS.hole hn (allW_mem hc) (subW_get hf)
theorem anyC {σ : Nat → Nat} {n : Nat} : rnO σ .any = .any ∧ AO.any.wf n := ⟨rfl, trivial⟩
theorem plW {c : List Value} {T : TypeId} {n : Nat} (h : ∀ v ∈ c, Pl v) : (AO.cells c T).wf n := (plO (fun i => i) h).2
theorem slB_C {σ : Nat → Nat} {n : Nat} {T : TypeId} {con : List Value} {h : Hold} {sz k : Nat} (hc : ∀ v ∈ con, Pl v) (hok : slOk sz k con h) : rnO σ (slB T con h) = slB T con h ∧ (slB T con h).wf n := by
  cases h with
  | none => exact anyC
  | some p => exact plO σ (pl_app hc hok.2.2.2)
theorem VS.outH {X : Cx} {p n k sz : Nat} {T : TypeId} {con : List Value} {h : Hold} {L : List AO} (hp : L[p]? = some (slB T con h)) (hc : ∀ v ∈ con, Pl v) (hok : slOk sz k con h) : VS X 0 ([(0, slH (100 + p) n h)], L) ([(0, slH 100 n h)], slM T con h) := by
  have hl := (List.getElem?_eq_some_iff.1 hp).1
  cases h with
  | none => exact VS.cut (L := []) (Nat.zero_le _) (by simp) wf_nils
  | some q =>
    obtain ⟨tl, cap⟩ := q
    refine VS.mv 0 p (by decide) (by simp [slM]) hl (by simp [slM]; omega) (by simp [slM]; omega) hp (fun k h1 h2 => by simp [slM] at h1; omega) ?_ ⟨⟨by simp [Fr.get, slH, mvS], wf_sl (by simp [slM])⟩, trivial⟩
    intro o ho
    simp only [slM, List.mem_cons, List.not_mem_nil, or_false] at ho; subst ho
    exact plO _ (pl_app hc hok.2.2.2)
theorem slOk_z {sz n : Nat} {con : List Value} {h : Hold} (hok : slOk sz n con h) : h = none → n = 0 := fun e => by subst e; exact hok.1
theorem ln_slH {e b n : Nat} {h : Hold} (hz : h = none → n = 0) : lnU (some (.slice e)) (slH b n h) = some (.int .i64 n) := by
  cases h with
  | none => rw [hz rfl]; rfl
  | some p => rfl
theorem wf_slH {b k n : Nat} {h : Hold} (hb : b < n) : WF n (slH b k h) := by
  cases h with
  | none => exact wf_nils
  | some p => exact wf_sl hb
theorem VS.cutE {X : Cx} {n0 : Nat} {fr fr' : Fr} {L G : List AO} (hn : n0 ≤ L.length) (hw : allW (100 + L.length) L) (hf : subW (100 + L.length) fr fr') : VS X n0 (fr, L ++ G) (fr', L) := by
  have hg : ∀ i o, L[i]? = some o → (X.pad ++ (L ++ G))[100 + i]? = some o := fun i o h => by
    rw [get_own, List.getElem?_append_left (List.getElem?_eq_some_iff.1 h).1]; exact h
  refine VS.rename (fun i => i) (fun _ _ => rfl) (fun i o hi h _ => ?_) hn (fun i hi => by simp; omega) (fun i j o h _ hj e => e) (fun i c T h => ?_) (fun i b c h => ?_) (fun i o h => hg i _ h) (fun t y hy => ?_)
  · rw [List.getElem?_append_left (by omega)] at h; exact h
  · rw [map_rl_id]; exact ⟨hg i _ h, allW_mem hw _ (List.mem_of_getElem? h)⟩
  · rw [map_rl_id]; exact ⟨hg i _ h, allW_mem hw _ (List.mem_of_getElem? h)⟩
  · rw [rl_id]; exact subW_get hf t y hy
theorem isL_plx (l : List Int) : ∀ v ∈ isL l, Pl v := isL_pl l
theorem wf_str {n : Nat} {b : ByteArray} : WF n (.string b) := Pl.str.wf _
end Go.Tb
end
section
namespace Go.Tb
open Go Go.Proofs
variable {z : Nat × Nat}
set_option maxRecDepth 20000
def advL (c : Nat → Int) (f s : Int) : List Int :=
  if 0 ≤ atSq (f % 8) (f / 8 + upOf s) ∧ c (atSq (f % 8) (f / 8 + upOf s)).toNat = 0 then
    atSq (f % 8) (f / 8 + upOf s) :: (if f / 8 = 1 + 5 * s ∧ c (atSq (f % 8) (f / 8 + 2 * upOf s)).toNat = 0 then [atSq (f % 8) (f / 8 + 2 * upOf s)] else [])
  else []
def takeP (c : Nat → Int) (s q : Int) : Prop := (c q.toNat ≠ 0 ∧ sideOf (c q.toNat) ≠ s) ∨ (c q.toNat = 0 ∧ q = c 66 ∧ q / 8 = 5 - 3 * s)
instance (c : Nat → Int) (s q : Int) : Decidable (takeP c s q) := by unfold takeP; infer_instance
def takeL (c : Nat → Int) (s : Int) (l : List Int) : List Int := l.filter fun q => decide (takeP c s q)
def stepK (c : Nat → Int) (f s : Int) (k : Nat) : List Int := advL c f s ++ takeL c s ((hitL f s 2).take k)
def stepL (c : Nat → Int) (f : Int) : List Int := advL c f (sideOf (c f.toNat)) ++ takeL c (sideOf (c f.toNat)) (hitL f (sideOf (c f.toNat)) 2)
theorem stepK_yes {c : Nat → Int} {f s : Int} {k : Nat} (h : k < (hitL f s 2).length) (hp : takeP c s (iAt (hitL f s 2) k)) : stepK c f s (k + 1) = stepK c f s k ++ [iAt (hitL f s 2) k] := by
  unfold stepK takeL
  rw [List.take_add_one, iAt_get h, Option.toList_some, List.filter_append, List.append_assoc]
  congr 2
  simp [hp]
theorem stepK_no {c : Nat → Int} {f s : Int} {k : Nat} (h : k < (hitL f s 2).length) (hp : ¬ takeP c s (iAt (hitL f s 2) k)) : stepK c f s (k + 1) = stepK c f s k := by
  unfold stepK takeL
  rw [List.take_add_one, iAt_get h, Option.toList_some, List.filter_append]
  simp [hp]
theorem advL_len (c : Nat → Int) (f s : Int) : (advL c f s).length ≤ 2 := by unfold advL; split <;> (try split) <;> simp
theorem stepK_len (c : Nat → Int) (f s : Int) (k : Nat) : (stepK c f s k).length ≤ 4 := by
  have h1 := advL_len c f s
  have h2 := hitL_len f s 2
  have h3 := List.length_filter_le (fun q => decide (takeP c s q)) ((hitL f s 2).take k)
  have h4 : ((hitL f s 2).take k).length ≤ (hitL f s 2).length := by rw [List.length_take]; omega
  unfold stepK takeL
  rw [List.length_append]; omega
theorem hitT_bd (f s : Int) (k : Nat) : hitT f s k < 64 := atSq_lt _ _
theorem hitL_bd (f s : Int) : ∀ k, ∀ q ∈ hitL f s k, 0 ≤ q ∧ q < 64
  | 0, q, h => by cases h
  | k + 1, q, h => by
    simp only [hitL, List.mem_append] at h
    rcases h with h | h
    · exact hitL_bd f s k q h
    · split at h
      · simp at h; subst h; exact ⟨by assumption, hitT_bd _ _ _⟩
      · cases h
theorem hitL_pos {f s : Int} (hf : 8 ≤ f ∧ f ≤ 55) (hs : 0 ≤ s ∧ s ≤ 1) : (hitL f s 2).length ≠ 0 := by
  have hu : -1 ≤ upOf s ∧ upOf s ≤ 1 := by unfold upOf; omega
  by_cases h : f % 8 = 0
  · have h1 : 0 ≤ hitT f s 1 := (atSq_bd (by omega) (by omega)).1
    simp [hitL, h1]
  · have h1 : 0 ≤ hitT f s 0 := (atSq_bd (by omega) (by omega)).1
    simp [hitL, h1]
attribute [local irreducible] atSq upOf sideOf hitL stepK advL in
set_option maxHeartbeats 4000000 in
theorem steps_ok (c : Nat → Int) {f : Int} (hf : 8 ≤ f ∧ f ≤ 55) : FnM (Tz z) 53 [posV c, .int .i64 f] [] (fun h : Hold => slOk 1 (stepL c f).length (isL (stepL c f)) h) (slH 100 (stepL c f).length) (slM 3 (isL (stepL c f))) := by
  have hs := sideOf_bd (c f.toNat)
  have hu : -1 ≤ upOf (sideOf (c f.toNat)) ∧ upOf (sideOf (c f.toNat)) ≤ 1 := by unfold upOf; omega
  have hb1 := atSq_lt (f % 8) (f / 8 + upOf (sideOf (c f.toNat)))
  have hb2 : f / 8 = 1 + 5 * sideOf (c f.toNat) → 0 ≤ atSq (f % 8) (f / 8 + 2 * upOf (sideOf (c f.toNat))) ∧ atSq (f % 8) (f / 8 + 2 * upOf (sideOf (c f.toNat))) < 64 := fun h => atSq_bd (by omega) (by unfold upOf; omega)
  have hq := hitL_bd f (sideOf (c f.toNat)) 2
  have hl2 := hitL_len f (sideOf (c f.toNat)) 2
  refine ⟨by simp [Pl.int, Pl.wf, posV_pl], by simp, ?_, CallM.shiftX (start [0, 1, 2, 4, 5, 6, 7, 8, 9, 10, 11, 33, 59, 70, 111] Tryz.func53 rfl (by decide) rfl (by kernel_rfl) (by simp [Tryz.f53]) ?_)⟩
  · rintro (_ | ⟨tl, cap⟩) h o ho
    · simp [slM] at ho
    · simp only [slM, List.length_nil, List.drop_zero, List.mem_cons, List.not_mem_nil, or_false] at ho; subst ho; rfl
  simp only [Tryz.f53]
  unfold posV
  repeat' (first | (with_reducible first | refine seq_i (a := Code.region 2 _ _) [(1, .int .i64 f), (2, .pointer (some ⟨100, 0, none⟩)), (5, .int .i64 (sideOf (c f.toNat))), (6, slH 101 0 none)] [.cells (ints .i64 69 c) 24, slB 3 (isL []) none] ?_ (fun K hJ => ?_) | refine seq_y (a := Code.region 5 _ _) (fun h : Hold => ([(1, .int .i64 f), (2, .pointer (some ⟨100, 0, none⟩)), (5, .int .i64 (sideOf (c f.toNat))), (6, slH 101 [atSq (f % 8) (f / 8 + upOf (sideOf (c f.toNat)))].length h)], [.cells (ints .i64 69 c) 24, slB 3 (isL [atSq (f % 8) (f / 8 + upOf (sideOf (c f.toNat)))]) h])) (fun h => slOk 1 [atSq (f % 8) (f / 8 + upOf (sideOf (c f.toNat)))].length (isL [atSq (f % 8) (f / 8 + upOf (sideOf (c f.toNat)))]) h) (fun h hk1 => ?_) (fun K hJ => ?_) | refine seq_y (a := Code.seq (Code.region 4 _ _) _) (fun h : Hold => ([(1, .int .i64 f), (2, .pointer (some ⟨100, 0, none⟩)), (5, .int .i64 (sideOf (c f.toNat))), (6, slH 101 (advL c f (sideOf (c f.toNat))).length h)], [.cells (ints .i64 69 c) 24, slB 3 (isL (advL c f (sideOf (c f.toNat)))) h])) (fun h => slOk 1 (advL c f (sideOf (c f.toNat))).length (isL (advL c f (sideOf (c f.toNat)))) h) (fun h hk2 => ?_) (fun K hJ => ?_)) | (with_reducible refine hJ _ _ ?_; clear hJ) | ((with_reducible refine call_fr (hits_ok2 (f := f) (s := sideOf (c f.toNat)) (by omega) (by omega)) [] ?_ ?_ ?_ ?_); (· kernel_rfl); (· exact trivial); (· rfl); intro xx hx; obtain ⟨tl0, cap0, rfl, ht0⟩ := hold_some hx (hitL_pos hf hs); rw [fix_sl (pl_app (isL_plx _) ht0)]; simp only [List.length_cons, List.length_nil, Nat.zero_add, Nat.reduceAdd, slH_some, rl_slS, List.cons_append, List.nil_append]) | with_reducible refine loop (V := [0, 1, 2, 4, 5, 6, 7, 8, 9, 10, 11, 33, 59, 70, 111]) (fun y : Nat × Hold => ([(1, .int .i64 f), (2, .pointer (some ⟨100, 0, none⟩)), (5, .int .i64 (sideOf (c f.toNat))), (6, slH 101 (stepK c f (sideOf (c f.toNat)) y.1).length y.2), (9, .slice (some ⟨102, 0, none⟩) (hitL f (sideOf (c f.toNat)) 2).length cap0), (10, .int .i64 y.1)], [.cells (ints .i64 69 c) 24, slB 3 (isL (stepK c f (sideOf (c f.toNat)) y.1)) y.2, .cells (isL (hitL f (sideOf (c f.toNat)) 2) ++ tl0) 3])) (fun y => y.1 ≤ (hitL f (sideOf (c f.toNat)) 2).length ∧ slOk 1 (stepK c f (sideOf (c f.toNat)) y.1).length (isL (stepK c f (sideOf (c f.toNat)) y.1)) y.2) (fun y => (hitL f (sideOf (c f.toNat)) 2).length - y.1) (0, h) (by kernel_rfl) ?_ ?_ (fun y hk => (fun hln (hqk : y.1 < _ → _) => ?_) (stepK_len c f (sideOf (c f.toNat)) y.1) (fun hlt => hq _ (iAt_mem hlt))) | ((with_reducible refine app_k ?_); refine app_hold (X := Tz z) (i := 1) (e := 3) (sz := 1) (b := 8) (m := 1) (h := none) (con := isL []) (n := 0) (zc := [.int .i64 0]) (news := [.int .i64 (atSq (f % 8) (f / 8 + upOf (sideOf (c f.toNat))))]) (by kernel_rfl) (by kernel_rfl) rfl (by simp [Pl.int]) (src_own (j := 2) rfl (by kernel_rfl) rfl) rfl rfl (by decide) rfl ⟨rfl, rfl⟩ (by omega) (by omega) (fun tl cap hcap => ⟨?_, ?_⟩)) | ((with_reducible refine app_k ?_); refine app_hold (X := Tz z) (i := 1) (e := 3) (sz := 1) (b := 8) (m := 1) (h := h) (con := isL [atSq (f % 8) (f / 8 + upOf (sideOf (c f.toNat)))]) (n := 1) (zc := [.int .i64 0]) (news := [.int .i64 (atSq (f % 8) (f / 8 + 2 * upOf (sideOf (c f.toNat))))]) (by kernel_rfl) (by kernel_rfl) rfl (by simp [Pl.int]) (src_own (j := 2) rfl (by kernel_rfl) rfl) rfl rfl (by decide) rfl hk1 (by omega) (by omega) (fun tl cap hcap => ⟨?_, ?_⟩)) | ((with_reducible refine app_k ?_); refine app_hold (X := Tz z) (i := 1) (e := 3) (sz := 1) (b := 8) (m := 1) (h := y.2) (con := isL (stepK c f (sideOf (c f.toNat)) y.1)) (n := (stepK c f (sideOf (c f.toNat)) y.1).length) (zc := [.int .i64 0]) (news := [.int .i64 (iAt (hitL f (sideOf (c f.toNat)) 2) y.1)]) (by kernel_rfl) (by kernel_rfl) rfl (by simp [Pl.int]) (src_own (j := 3) rfl (by kernel_rfl) rfl) rfl rfl (by decide) rfl hk.2 (by omega) (by omega) (fun tl cap hcap => ⟨?_, ?_⟩)) | (with_reducible first | refine draw (by kernel_rfl) (by kernel_rfl) ?_ | refine call_p (sideOf_ok) ?_ | refine qG_call (sideOf_ok) ?_ | refine zG_call (sideOf_ok) ?_ | refine yG_call (sideOf_ok) ?_ | refine piG_call (sideOf_ok) ?_ | refine call_p (at_ok (by omega) (by omega)) ?_ | refine qG_call (at_ok (by omega) (by omega)) ?_ | refine zG_call (at_ok (by omega) (by omega)) ?_ | refine yG_call (at_ok (by omega) (by omega)) ?_ | refine piG_call (at_ok (by omega) (by omega)) ?_ | refine call_p (file_ok (by omega)) ?_ | refine qG_call (file_ok (by omega)) ?_ | refine zG_call (file_ok (by omega)) ?_ | refine yG_call (file_ok (by omega)) ?_ | refine piG_call (file_ok (by omega)) ?_ | refine call_p (rank_ok (by omega) (by omega)) ?_ | refine qG_call (rank_ok (by omega) (by omega)) ?_ | refine zG_call (rank_ok (by omega) (by omega)) ?_ | refine yG_call (rank_ok (by omega) (by omega)) ?_ | refine piG_call (rank_ok (by omega) (by omega)) ?_ | refine call_p (up_ok (by omega) (by omega)) ?_ | refine qG_call (up_ok (by omega) (by omega)) ?_ | refine zG_call (up_ok (by omega) (by omega)) ?_ | refine yG_call (up_ok (by omega) (by omega)) ?_ | refine piG_call (up_ok (by omega) (by omega)) ?_ | refine seq_k fun K hK => ?_) | (with_reducible refine hK _ _ ?_; clear hK) | ((with_reducible first | refine gd_dec ?_ ?_ | refine gd_ndec ?_ ?_ | refine qC_dec ?_ ?_ | refine qC_ndec ?_ ?_ | refine piC_dec ?_ ?_ | refine piC_ndec ?_ ?_ | refine zC_dec ?_ ?_ | refine zC_ndec ?_ ?_ | refine zD_dec ?_ ?_ | refine yC_dec ?_ ?_ | refine yC_ndec ?_ ?_ | refine if_dec ?_ ?_ | refine if_ndec ?_ ?_) <;> intro hh) | simp -implicitDefEqProofs (disch := first | omega | assumption) only [go_sem, ↓reduceIte, Nat.reduceEqDiff, Int.reduceEq, Nat.reduceAdd, Nat.reduceSub, Nat.reduceMul, Nat.mul_one, Nat.one_mul, List.length_nil, List.length_cons, List.nil_append, List.cons_append, List.length_append, List.set_cons_zero, List.set_cons_succ, Nat.zero_add, Nat.sub_zero, Option.isNone_none, Option.isNone_some, Int.toNat_natCast, Nat.add_sub_cancel_left, Bool.not_true, Bool.not_false, BitVec.reduceOfInt, Int.reduceToNat, isL_g] | ((with_reducible first | refine gd_bool ?_ ?_ | refine if_bool ?_ ?_ | refine qC_bool ?_ ?_ | refine piC_bool ?_ ?_ | refine zC_bool ?_ ?_ | refine zD_bool ?_ ?_ | refine yC_bool ?_ ?_) <;> intro hh) | clear hK)
  all_goals first
    | exact VS.holex (L := [.cells (ints .i64 69 c) 24]) (by simp) ⟨plW (ints_pl _ _ _), trivial⟩ (by simp [subW, Fr.get, slH, wf_int, wf_pt, wf_nils])
    | exact ⟨Nat.zero_le _, by simpa [stepK, takeL] using hk2⟩
    | (refine VS.sub2 ?_ (by simp [stepK, takeL])
       simp [Fr.sub, Fr.get, stepK, takeL]; done)
    | (refine ⟨some (tl, cap), by simpa [isL] using hcap, VS.mvx 1 1 (by decide) (by simp) (by simp) (by simp) (by simp) ?_ (by simp [eqX]) ?_ ?_⟩
       · simp [slB, isL]
       · exact ⟨plO _ (ints_pl _ _ _), slB_C (isL_plx _) (h := some (tl, cap)) (by simpa [isL] using hcap), trivial⟩
       · simp [mvF, Fr.get, slH, mvS, wf_int, wf_bool, wf_sl, wf_pt, wf_nils, wf_str]; done)
    | (refine ⟨some (tl, cap), by simpa [isL] using hcap, VS.mvx 1 3 (by decide) (by simp) (by simp) (by simp) (by simp) ?_ (by simp [eqX]) ?_ ?_⟩
       · simp [slB, isL]
       · exact ⟨plO _ (ints_pl _ _ _), slB_C (isL_plx _) (h := some (tl, cap)) (by simpa [isL] using hcap), trivial⟩
       · simp [mvF, Fr.get, slH, mvS, wf_int, wf_bool, wf_sl, wf_pt, wf_nils, wf_str]; done)
    | (have e : advL c f (sideOf (c f.toNat)) = [atSq (f % 8) (f / 8 + upOf (sideOf (c f.toNat))), atSq (f % 8) (f / 8 + 2 * upOf (sideOf (c f.toNat)))] := by
        unfold advL; rw [if_pos ⟨by omega, by assumption⟩, if_pos ⟨by omega, by assumption⟩]
       rw [e]
       first
         | (refine ⟨some (tl, cap), by simpa [isL] using hcap, VS.mvx 1 1 (by decide) (by simp) (by simp) (by simp) (by simp) ?_ (by simp [eqX]) ?_ ?_⟩
            · simp [slB, isL]
            · exact ⟨plO _ (ints_pl _ _ _), slB_C (isL_plx _) (h := some (tl, cap)) (by simpa [isL] using hcap), trivial⟩
            · simp [mvF, Fr.get, slH, mvS, wf_int, wf_bool, wf_sl, wf_pt, wf_nils, wf_str]; done)
         | (refine ⟨some (tl, cap), by simpa [isL] using hcap, VS.mvx 1 3 (by decide) (by simp) (by simp) (by simp) (by simp) ?_ (by simp [eqX]) ?_ ?_⟩
            · simp [slB, isL]
            · exact ⟨plO _ (ints_pl _ _ _), slB_C (isL_plx _) (h := some (tl, cap)) (by simpa [isL] using hcap), trivial⟩
            · simp [mvF, Fr.get, slH, mvS, wf_int, wf_bool, wf_sl, wf_pt, wf_nils, wf_str]; done))
    | (have e : advL c f (sideOf (c f.toNat)) = [atSq (f % 8) (f / 8 + upOf (sideOf (c f.toNat)))] := by
        unfold advL; rw [if_pos ⟨by omega, by assumption⟩, if_neg (by rintro ⟨h1, h2⟩; first | omega | contradiction)]
       rw [e]
       exact ⟨h, hk1, VS.sub2 (by simp [Fr.sub, Fr.get]) rfl⟩)
    | (have e : advL c f (sideOf (c f.toNat)) = [] := by
        unfold advL; rw [if_neg (by rintro ⟨h1, h2⟩; first | omega | contradiction)]
       rw [e]
       exact ⟨none, ⟨rfl, rfl⟩, VS.sub2 (by simp [Fr.sub, Fr.get]) rfl⟩)
    | (have hlt : y.1 < (hitL f (sideOf (c f.toNat)) 2).length := by omega
       have e := stepK_yes (c := c) hlt (by unfold takeP; omega)
       first
         | (refine ⟨(y.1 + 1, some (tl, cap)), ⟨by simp only; omega, by rw [e]; simpa [isL] using hcap⟩, by simp only; omega, VS.mvx 1 1 (by decide) (by simp) (by simp) (by simp) (by simp) ?_ (by simp [eqX]) ?_ ?_⟩
            · simp [slB, isL, e]
            · exact ⟨plO _ (ints_pl _ _ _), slB_C (isL_plx _) (h := some (tl, cap)) (by rw [e]; simpa [isL] using hcap), plO _ (pl_app (isL_plx _) ht0), trivial⟩
            · simp only [e]; simp [mvF, Fr.get, slH, mvS, wf_int, wf_bool, wf_sl, wf_pt, wf_nils, wf_str]; done)
         | (refine ⟨(y.1 + 1, some (tl, cap)), ⟨by simp only; omega, by rw [e]; simpa [isL] using hcap⟩, by simp only; omega, VS.mvx 1 4 (by decide) (by simp) (by simp) (by simp) (by simp) ?_ (by simp [eqX]) ?_ ?_⟩
            · simp [slB, isL, e]
            · exact ⟨plO _ (ints_pl _ _ _), slB_C (isL_plx _) (h := some (tl, cap)) (by rw [e]; simpa [isL] using hcap), plO _ (pl_app (isL_plx _) ht0), trivial⟩
            · simp only [e]; simp [mvF, Fr.get, slH, mvS, wf_int, wf_bool, wf_sl, wf_pt, wf_nils, wf_str]; done))
    | (have hlt : y.1 < (hitL f (sideOf (c f.toNat)) 2).length := by omega
       have e := stepK_no (c := c) hlt (by unfold takeP; omega)
       refine ⟨(y.1 + 1, y.2), ⟨by simp only; omega, by rw [e]; exact hk.2⟩, by simp only; omega, VS.sub2 ?_ (by rw [e])⟩
       simp only [e]; simp [Fr.sub, Fr.get]; done)
    | (have e : stepK c f (sideOf (c f.toNat)) y.1 = stepL c f := by
        rw [show y.1 = (hitL f (sideOf (c f.toNat)) 2).length by omega, stepK, List.take_length]; rfl
       rw [e] at hk ⊢
       exact ⟨y.2, hk.2, VS.outH (p := 1) rfl (isL_plx _) hk.2⟩)
end Go.Tb
end
section
namespace Go.Tb
open Go Go.Proofs
variable {z : Nat × Nat}
set_option maxRecDepth 20000
abbrev M3 := Int × Int × Int
def mB (m : M3) : List Value := [.int .i64 m.1, .int .i64 m.2.1, .int .i64 m.2.2]
def msL (l : List M3) : List Value := l.flatMap mB
theorem msL_app (a b : List M3) : msL (a ++ b) = msL a ++ msL b := by simp [msL]
theorem msL_one (m : M3) : msL [m] = mB m := by simp [msL]
theorem msL_pl (l : List M3) : ∀ v ∈ msL l, Pl v := by
  intro v hv
  simp only [msL, mB, List.mem_flatMap, List.mem_cons, List.not_mem_nil, or_false] at hv
  obtain ⟨m, _, rfl | rfl | rfl⟩ := hv <;> exact Pl.int
theorem msL_len (l : List M3) : (msL l).length = l.length * 3 := by
  induction l with
  | nil => rfl
  | cons m l ih => simp only [msL, List.flatMap_cons, List.length_append, mB, List.length_cons, List.length_nil] at ih ⊢; omega
def mAt (l : List M3) (i : Nat) : M3 := l.getD i (0, 0, 0)
theorem mAt_get {l : List M3} {i : Nat} (h : i < l.length) : l[i]? = some (mAt l i) := by simp [mAt, List.getD_eq_getElem?_getD, h]
theorem mAt_mem {l : List M3} {i : Nat} (h : i < l.length) : mAt l i ∈ l := List.mem_of_getElem? (mAt_get h)
theorem msL_split {l : List M3} {i : Nat} (h : i < l.length) : msL l = msL (l.take i) ++ (mB (mAt l i) ++ msL (l.drop (i + 1))) := by
  conv => lhs; rw [← List.take_append_drop i l]
  rw [msL_app]
  congr 1
  have e : l.drop i = mAt l i :: l.drop (i + 1) := by
    rw [List.drop_eq_getElem_cons h]
    congr 1
    have := mAt_get h
    rw [List.getElem?_eq_getElem h] at this
    exact Option.some.inj this
  rw [e]; simp [msL]
theorem msL_sub {l : List M3} {tl : List Value} {i : Nat} (h : i < l.length) : sub (msL l ++ tl) (i * 3) 3 = some (mB (mAt l i)) := by
  have hl : (msL (l.take i)).length = i * 3 := by rw [msL_len, List.length_take]; omega
  unfold sub
  rw [if_pos (by rw [List.length_append, msL_len]; omega), msL_split h, List.append_assoc, List.drop_append, List.drop_of_length_le (by omega), hl, Nat.sub_self, List.drop_zero, List.nil_append]
  rfl
theorem msL_g {l : List M3} {tl : List Value} {i j : Nat} (h : i < l.length) (hj : j < 3) : (msL l ++ tl)[i * 3 + j]? = (mB (mAt l i))[j]? := by
  have hl : (msL (l.take i)).length = i * 3 := by rw [msL_len, List.length_take]; omega
  rw [msL_split h, List.append_assoc, List.getElem?_append_right (by omega), hl, Nat.add_sub_cancel_left, List.append_assoc, List.getElem?_append_left (by simpa [mB] using hj)]
theorem msL_g0 {l : List M3} {tl : List Value} {i : Nat} (h : i < l.length) : (msL l ++ tl)[i * 3]? = some (.int .i64 (mAt l i).1) := msL_g (j := 0) h (by decide)
theorem msL_g00 {l : List M3} {tl : List Value} {i : Nat} (h : i < l.length) : (msL l ++ tl)[i * 3 + 0]? = some (.int .i64 (mAt l i).1) := msL_g (j := 0) h (by decide)
theorem msL_g1 {l : List M3} {tl : List Value} {i : Nat} (h : i < l.length) : (msL l ++ tl)[i * 3 + 1]? = some (.int .i64 (mAt l i).2.1) := msL_g (j := 1) h (by decide)
def btw (k r : Int) (j : Nat) : Prop := (k < j ∧ (j : Int) < r) ∨ (r < j ∧ (j : Int) < k)
def cW (r : Int) : Int := if homeR r < homeK r then -1 else 1
def castP (c : Nat → Int) (r : Nat) : Prop := bitI (rightsN c 4) r = 1 ∧ attB c (homeK r) (1 - c 64) = false ∧ attB c (homeK r + cW r) (1 - c 64) = false ∧ ∀ j : Nat, btw (homeK r) (homeR r) j → c j = 0
open Classical in
noncomputable def castK (c : Nat → Int) (r0 : Nat) : Nat → List M3
  | 0 => []
  | k + 1 => castK c r0 k ++ if castP c (r0 + k) then [(homeK (r0 + k : Nat), homeK (r0 + k : Nat) + 2 * cW (r0 + k : Nat), 0)] else []
noncomputable def castL (c : Nat → Int) : List M3 := castK c (2 * c 64).toNat 2
theorem cW_lt {r : Int} (h : homeR r < homeK r) : cW r = -1 := if_pos h
theorem cW_ge {r : Int} (h : ¬ homeR r < homeK r) : cW r = 1 := if_neg h
theorem castK_len (c : Nat → Int) (r0 : Nat) : ∀ k, (castK c r0 k).length ≤ k
  | 0 => Nat.le_refl 0
  | k + 1 => by
    have := castK_len c r0 k
    simp only [castK]; split <;> simp <;> omega
theorem castK_yes {c : Nat → Int} {r0 k : Nat} (h : castP c (r0 + k)) : castK c r0 (k + 1) = castK c r0 k ++ [(homeK (r0 + k : Nat), homeK (r0 + k : Nat) + 2 * cW (r0 + k : Nat), 0)] := by
  simp only [castK]; rw [if_pos h]
theorem castK_no {c : Nat → Int} {r0 k : Nat} (h : ¬ castP c (r0 + k)) : castK c r0 (k + 1) = castK c r0 k := by
  simp only [castK]; rw [if_neg h, List.append_nil]
theorem home_facts {r : Nat} (h : r < 4) : (homeK r = 4 ∨ homeK r = 60) ∧ ((cW r = 1 ∧ homeR r = homeK r + 3) ∨ (cW r = -1 ∧ homeR r = homeK r - 4)) := by
  have : r = 0 ∨ r = 1 ∨ r = 2 ∨ r = 3 := by omega
  rcases this with rfl | rfl | rfl | rfl <;> decide
def freeP (c : Nat → Int) (r : Nat) (i : Int) : Prop := attB c (homeK r + cW r) (1 - c 64) = false ∧ ∀ j : Nat, btw (homeK r) i j → c j = 0
open Classical in
noncomputable def freeB (c : Nat → Int) (r : Nat) (i : Int) : Bool := decide (freeP c r i)
theorem freeB_iff {c : Nat → Int} {r : Nat} {i : Int} : freeB c r i = true ↔ freeP c r i := by unfold freeB; exact @decide_eq_true_iff _ (Classical.propDecidable _)
theorem freeB_0 {c : Nat → Int} {r : Nat} (h : r < 4) : freeB c r (homeK r + cW r) = !attB c (homeK r + cW r) (1 - c 64) := by
  have hf := home_facts h
  unfold freeB freeP
  cases ha : attB c (homeK r + cW r) (1 - c 64)
  · simp only [Bool.not_false, decide_eq_true_eq, true_and]
    intro j hj; unfold btw at hj; omega
  · simp
theorem freeB_S {c : Nat → Int} {r : Nat} {i : Int} (h : r < 4) (h0 : 0 ≤ i) (hi : btw (homeK r) (homeR r) i.toNat) : freeB c r (i + cW r) = (freeB c r i && decide (c i.toNat = 0)) := by
  have hf := home_facts h
  unfold freeB freeP
  rw [Bool.eq_iff_iff]
  simp only [decide_eq_true_eq, Bool.and_eq_true]
  unfold btw at *
  constructor
  · rintro ⟨h1, h2⟩
    exact ⟨⟨h1, fun j hj => h2 j (by omega)⟩, h2 _ (by omega)⟩
  · rintro ⟨⟨h1, h2⟩, h3⟩
    refine ⟨h1, fun j hj => ?_⟩
    by_cases e : (j : Int) = i
    · rw [show j = i.toNat by omega]; exact h3
    · exact h2 j (by omega)
theorem bit_of {n : Int} {k : Nat} (h : 0 ≤ n ∧ n ≤ 15) : bitI n k = 0 ∨ bitI n k = 1 := by unfold bitI; omega
attribute [local irreducible] band bshr bshl homeK homeR rightsN cW attB in
set_option maxHeartbeats 4000000 in
theorem castles_ok (c : Nat → Int) (hb : Bd c) (h64 : 0 ≤ c 64 ∧ c 64 ≤ 1) (h65 : 0 ≤ c 65 ∧ c 65 ≤ 15) : FnM (Tz z) 56 [posV c] [] (fun h : Hold => slOk 3 (castL c).length (msL (castL c)) h) (slH 100 (castL c).length) (slM 38 (msL (castL c))) := by
  refine ⟨by simp [posV_pl, Pl.wf], by simp, ?_, CallM.shiftX (start [0, 1, 2, 3, 4, 5, 6, 7, 8, 9, 18, 39, 42, 57, 69] Tryz.func56 rfl (by decide) rfl (by kernel_rfl) (by simp [Tryz.f56]) ?_)⟩
  · rintro (_ | ⟨tl, cap⟩) h o ho
    · simp [slM] at ho
    · simp only [slM, List.length_nil, List.drop_zero, List.mem_cons, List.not_mem_nil, or_false] at ho; subst ho; rfl
  simp only [Tryz.f56]
  unfold posV
  have hr4 := rightsN_bd c (k := 4) (Nat.le_refl 4)
  repeat' (first | with_reducible refine loop (c := Code.seq (Code.seq (Code.region 3 _ _) _) _) (V := [0, 1, 2, 3, 4, 5, 6, 7, 8, 9, 18, 39, 42, 57, 69]) (fun y : Nat × Hold => ([(1, .pointer (some ⟨100, 0, none⟩)), (3, slH 101 (castK c (2 * c 64).toNat y.1).length y.2), (4, .int .i64 (((2 * c 64).toNat + y.1 : Nat) : Int))], [.cells (ints .i64 69 c) 24, slB 38 (msL (castK c (2 * c 64).toNat y.1)) y.2])) (fun y => y.1 ≤ 2 ∧ slOk 3 (castK c (2 * c 64).toNat y.1).length (msL (castK c (2 * c 64).toNat y.1)) y.2) (fun y => 2 - y.1) (0, none) (by kernel_rfl) ?_ ?_ (fun y hk => (fun hln (mk : True) => ?_) (castK_len c (2 * c 64).toNat y.1) trivial) | with_reducible refine seq_i (a := Code.seq (Code.region 8 _ _) _) [(1, .pointer (some ⟨100, 0, none⟩)), (3, slH 101 (castK c (2 * c 64).toNat y.1).length y.2), (4, .int .i64 (((2 * c 64).toNat + y.1 : Nat) : Int)), (5, .int .i64 (homeK (((2 * c 64).toNat + y.1 : Nat) : Int))), (6, .int .i64 (homeR (((2 * c 64).toNat + y.1 : Nat) : Int))), (7, .int .i64 (cW (((2 * c 64).toNat + y.1 : Nat) : Int)))] [.cells (ints .i64 69 c) 24, slB 38 (msL (castK c (2 * c 64).toNat y.1)) y.2] ?_ (fun K hJ => ?_) | (have hf := home_facts (r := ((2 * c 64).toNat + y.1)) (by omega); clear mk) | with_reducible refine loop (c := Code.seq (Code.seq (Code.region 12 _ _) _) _) (V := [0, 1, 2, 3, 4, 5, 6, 7, 8, 9, 18, 39, 42, 57, 69]) (fun i : Int => ([(1, .pointer (some ⟨100, 0, none⟩)), (3, slH 101 (castK c (2 * c 64).toNat y.1).length y.2), (4, .int .i64 (((2 * c 64).toNat + y.1 : Nat) : Int)), (5, .int .i64 (homeK (((2 * c 64).toNat + y.1 : Nat) : Int))), (6, .int .i64 (homeR (((2 * c 64).toNat + y.1 : Nat) : Int))), (7, .int .i64 (cW (((2 * c 64).toNat + y.1 : Nat) : Int))), (8, .bool (freeB c ((2 * c 64).toNat + y.1) i)), (9, .int .i64 i)], [.cells (ints .i64 69 c) 24, slB 38 (msL (castK c (2 * c 64).toNat y.1)) y.2])) (fun i => 0 ≤ i ∧ i < 64 ∧ ((homeK (((2 * c 64).toNat + y.1 : Nat) : Int) < i ∧ i ≤ homeR (((2 * c 64).toNat + y.1 : Nat) : Int)) ∨ (homeR (((2 * c 64).toNat + y.1 : Nat) : Int) ≤ i ∧ i < homeK (((2 * c 64).toNat + y.1 : Nat) : Int)))) (fun i => (homeR (((2 * c 64).toNat + y.1 : Nat) : Int) - i).natAbs) (homeK (((2 * c 64).toNat + y.1 : Nat) : Int) + cW (((2 * c 64).toNat + y.1 : Nat) : Int)) (by kernel_rfl) ?_ ?_ (fun i hi => ?_) | ((with_reducible refine app_k ?_); refine app_hold (X := Tz z) (i := 1) (e := 38) (sz := 3) (b := 24) (m := 1) (h := y.2) (con := msL (castK c (2 * c 64).toNat y.1)) (n := (castK c (2 * c 64).toNat y.1).length) (zc := [.int .i64 0, .int .i64 0, .int .i64 0]) (news := mB (homeK (((2 * c 64).toNat + y.1 : Nat) : Int), homeK (((2 * c 64).toNat + y.1 : Nat) : Int) + 2 * cW (((2 * c 64).toNat + y.1 : Nat) : Int), 0)) (by kernel_rfl) (by kernel_rfl) rfl (by simp [Pl.int]) (src_own (j := 2) rfl (by kernel_rfl) rfl) rfl rfl (by decide) rfl hk.2 (by omega) (by omega) (fun tl cap hcap => ⟨?_, ?_⟩)) | (with_reducible refine hJ _ _ ?_; clear hJ) | (with_reducible first | refine call_p (home_ok (by omega)) ?_ | refine qG_call (home_ok (by omega)) ?_ | refine zG_call (home_ok (by omega)) ?_ | refine yG_call (home_ok (by omega)) ?_ | refine piG_call (home_ok (by omega)) ?_ | refine call_p (rights_ok c (by omega)) ?_ | refine qG_call (rights_ok c (by omega)) ?_ | refine zG_call (rights_ok c (by omega)) ?_ | refine yG_call (rights_ok c (by omega)) ?_ | refine piG_call (rights_ok c (by omega)) ?_ | refine call_p (attacked_ok c (by omega) (by omega) hb) ?_ | refine qG_call (attacked_ok c (by omega) (by omega) hb) ?_ | refine zG_call (attacked_ok c (by omega) (by omega) hb) ?_ | refine yG_call (attacked_ok c (by omega) (by omega) hb) ?_ | refine piG_call (attacked_ok c (by omega) (by omega) hb) ?_ | refine seq_k fun K hK => ?_) | (with_reducible refine hK _ _ ?_; clear hK) | ((with_reducible first | refine gd_dec ?_ ?_ | refine gd_ndec ?_ ?_ | refine qC_dec ?_ ?_ | refine qC_ndec ?_ ?_ | refine piC_dec ?_ ?_ | refine piC_ndec ?_ ?_ | refine zC_dec ?_ ?_ | refine zC_ndec ?_ ?_ | refine zD_dec ?_ ?_ | refine yC_dec ?_ ?_ | refine yC_ndec ?_ ?_ | refine if_dec ?_ ?_ | refine if_ndec ?_ ?_) <;> intro hh) | simp -implicitDefEqProofs (disch := first | omega | assumption) only [go_sem, ↓reduceIte, Nat.reduceEqDiff, Int.reduceEq, Nat.reduceAdd, Nat.reduceSub, Nat.reduceMul, Nat.mul_one, Nat.one_mul, List.length_nil, List.length_cons, List.nil_append, List.cons_append, List.length_append, List.set_cons_zero, List.set_cons_succ, Nat.zero_add, Nat.sub_zero, Option.isNone_none, Option.isNone_some, Int.toNat_natCast, Nat.add_sub_cancel_left, Bool.not_true, Bool.not_false, BitVec.reduceOfInt, Int.reduceToNat, bit_eq, pickV_T, pickV_F, onGd_T, onGd_F] | ((with_reducible first | refine gd_bool ?_ ?_ | refine if_bool ?_ ?_ | refine qC_bool ?_ ?_ | refine piC_bool ?_ ?_ | refine zC_bool ?_ ?_ | refine zD_bool ?_ ?_ | refine yC_bool ?_ ?_) <;> intro hh) | clear hK)
  all_goals first
    | exact ⟨Nat.zero_le _, by simp [slOk, castK, msL]⟩
    | exact VS.trans (VS.holex (L := [.cells (ints .i64 69 c) 24]) (fr' := [(1, .pointer (some ⟨100, 0, none⟩)), (3, slH 101 0 none), (4, .int .i64 (2 * c 64))]) (by simp) ⟨plW (ints_pl _ _ _), trivial⟩ (by simp [subW, Fr.get, slH, wf_int, wf_pt, wf_nils])) (VS.of_eq (by simp [castK, slB]; omega))
    | (have hp : ¬ castP c ((2 * c 64).toNat + y.1) := by
        rintro ⟨h1, h2, h3, h4⟩
        first
          | omega
          | (have h5 : freeB c ((2 * c 64).toNat + y.1) i = true := freeB_iff.2 ⟨h3, by rw [show i = homeR (((2 * c 64).toNat + y.1 : Nat) : Int) by omega]; exact h4⟩
             simp_all; done)
          | (simp_all; done)
       have e := castK_no hp
       refine ⟨(y.1 + 1, y.2), ⟨by simp only; omega, by rw [e]; exact hk.2⟩, by simp only; omega, VS.sub2 ?_ (by rw [e])⟩
       simp only [e]; simp [Fr.sub, Fr.get]; (try omega); done)
    | omega
    | (rw [freeB_0 (by omega)]; exact VS.sub2 (by simp [Fr.sub, Fr.get]) rfl)
    | (have e := freeB_S (c := c) (r := ((2 * c 64).toNat + y.1)) (i := i) (by omega) (by omega) (by unfold btw; omega)
       refine ⟨i + cW (((2 * c 64).toNat + y.1 : Nat) : Int), by omega, by omega, VS.sub2 ?_ rfl⟩
       rw [e]
       simp [Fr.sub, Fr.get, *]; done)
    | (have hw := cW_lt (r := (((2 * c 64).toNat + y.1 : Nat) : Int)) (by assumption)
       exact VS.sub2 (by simp only [Fr.sub, Fr.get, ↓reduceIte, Nat.reduceEqDiff, hw, and_self]) rfl)
    | (have hw := cW_ge (r := (((2 * c 64).toNat + y.1 : Nat) : Int)) (by assumption)
       exact VS.sub2 (by simp only [Fr.sub, Fr.get, ↓reduceIte, Nat.reduceEqDiff, hw, and_self]) rfl)
    | (have hi2 : i = homeR (((2 * c 64).toNat + y.1 : Nat) : Int) := by omega
       have hfr : freeP c ((2 * c 64).toNat + y.1) i := freeB_iff.1 (by assumption)
       have hp : castP c ((2 * c 64).toNat + y.1) := ⟨by have := bit_of (k := ((2 * c 64).toNat + y.1)) hr4; omega, by assumption, hfr.1, by rw [← hi2]; exact hfr.2⟩
       have e := castK_yes hp
       have hcap' : slOk 3 (castK c (2 * c 64).toNat (y.1 + 1)).length (msL (castK c (2 * c 64).toNat (y.1 + 1))) (some (tl, cap)) := by
        rw [e, msL_app, msL_one, List.length_append]; exact hcap
       first
         | (refine ⟨(y.1 + 1, some (tl, cap)), ⟨by simp only; omega, hcap'⟩, by simp only; omega, VS.mvx 1 1 (by decide) (by simp) (by simp) (by simp) (by simp) ?_ (by simp [eqX]) ?_ ?_⟩
            · simp [slB, msL_app, msL_one, e]
            · exact ⟨plO _ (ints_pl _ _ _), slB_C (msL_pl _) hcap', trivial⟩
            · simp only [e]; simp [mvF, Fr.get, slH, mvS, wf_int, wf_bool, wf_sl, wf_pt, wf_nils, wf_str]; (try omega); done)
         | (refine ⟨(y.1 + 1, some (tl, cap)), ⟨by simp only; omega, hcap'⟩, by simp only; omega, VS.mvx 1 3 (by decide) (by simp) (by simp) (by simp) (by simp) ?_ (by simp [eqX]) ?_ ?_⟩
            · simp [slB, msL_app, msL_one, e]
            · exact ⟨plO _ (ints_pl _ _ _), slB_C (msL_pl _) hcap', trivial⟩
            · simp only [e]; simp [mvF, Fr.get, slH, mvS, wf_int, wf_bool, wf_sl, wf_pt, wf_nils, wf_str]; (try omega); done))
    | (have e : castK c (2 * c 64).toNat y.1 = castL c := by
        rw [show y.1 = 2 by omega]; rfl
       rw [e] at hk ⊢
       exact ⟨y.2, hk.2, VS.outH (p := 1) rfl (msL_pl _) hk.2⟩)
end Go.Tb
end
