/-
  A part of the proof (my own): of the texts that the claim's last text rests on: parts I6, J1, P3, B7c, B8, B6.
-/
import Derived.Test.YtigjokkakcmmdaaGreatDoorT16
import Derived.Test.YtigjokkakcmmdaaGreatDoorT14
import Derived.Test.YtigjokkakcmmdaaGreatDoorT12
import Derived.Test.YtigjokkakcmmdaaGreatDoorT09
set_option linter.unusedSimpArgs false
set_option linter.unusedVariables false
section
namespace Go.Tb
open Go Go.Proofs
variable {z : Nat × Nat}
set_option maxRecDepth 20000
theorem swpL_perm : ∀ (k : Nat) (l : List M3), k + 1 < l.length → (swpL l k).Perm l
  | _, [], h => by simp at h
  | 0, [_], h => by simp at h
  | 0, x :: y :: t, _ => by
    show List.Perm (y :: x :: t) (x :: y :: t)
    exact List.Perm.swap x y t
  | k + 1, x :: t, h => by
    have e : swpL (x :: t) (k + 1) = x :: swpL t k := by simp [swpL, mAt]
    rw [e]
    exact (swpL_perm k t (by simpa using h)).cons x
theorem insK_perm : ∀ (k : Nat) (l : List M3), k < l.length → (insK l k).Perm l
  | 0, l, _ => List.Perm.refl l
  | k + 1, l, h => by
    simp only [insK]
    split
    · exact (insK_perm k (swpL l k) (by rw [swpL_len]; omega)).trans (swpL_perm k l h)
    · exact List.Perm.refl l
theorem ordK_perm (l : List M3) : ∀ i, i < l.length → (ordK l i).Perm l
  | 0, _ => List.Perm.refl l
  | i + 1, h => (insK_perm (i + 1) _ (by rw [ordK_len]; exact h)).trans (ordK_perm l i (by omega))
theorem ordL_perm (l : List M3) : (ordL l).Perm l := by
  cases l with
  | nil => exact List.Perm.refl _
  | cons x t => exact ordK_perm _ _ (by simp)
def mBd (m : M3) : Prop := (0 ≤ m.1 ∧ m.1 ≤ 63) ∧ (0 ≤ m.2.1 ∧ m.2.1 ≤ 63) ∧ (0 ≤ m.2.2 ∧ m.2.2 ≤ 5)
theorem promL_mem {f t : Int} : ∀ {q : Nat} {m : M3}, m ∈ promL f t q → ∃ j : Nat, j < q ∧ m = (f, t, (j : Int) + 2)
  | 0, m, h => by cases h
  | q + 1, m, h => by
    rcases List.mem_append.1 h with h | h
    · obtain ⟨j, h1, h2⟩ := promL_mem h; exact ⟨j, by omega, h2⟩
    · simp only [List.mem_cons, List.not_mem_nil, or_false] at h; exact ⟨q, by omega, h⟩
theorem movL_bd {c : Nat → Int} {f t : Int} (hf : 0 ≤ f ∧ f ≤ 63) (ht : 0 ≤ t ∧ t ≤ 63) : ∀ m ∈ movL c f t, mBd m := by
  intro m hm
  unfold movL at hm
  split at hm
  · cases hm
  · split at hm
    · simp only [List.mem_cons, List.not_mem_nil, or_false] at hm; subst hm; exact ⟨hf, ht, by simp⟩
    · obtain ⟨j, h1, rfl⟩ := promL_mem hm; exact ⟨hf, ht, by simp only; omega⟩
theorem psqK_mem {c : Nat → Int} {f : Int} {m : M3} : ∀ {i : Nat}, m ∈ psqK c f i → ∃ j, j < i ∧ m ∈ movL c f (iAt (tgtL c f) j)
  | 0, h => by cases h
  | i + 1, h => by
    rcases List.mem_append.1 h with h | h
    · obtain ⟨j, h1, h2⟩ := psqK_mem h; exact ⟨j, by omega, h2⟩
    · exact ⟨i, by omega, h⟩
theorem pseuK_mem {c : Nat → Int} {m : M3} : ∀ {k : Nat}, m ∈ pseuK c k → ∃ j i, j < k ∧ ownP c j ∧ i < (tgtL c j).length ∧ m ∈ movL c j (iAt (tgtL c j) i)
  | 0, h => by cases h
  | k + 1, h => by
    rcases List.mem_append.1 h with h | h
    · obtain ⟨j, i, h1, h2⟩ := pseuK_mem h; exact ⟨j, i, by omega, h2⟩
    · split at h
      · obtain ⟨i, h1, h2⟩ := psqK_mem h; exact ⟨k, i, by omega, by assumption, h1, h2⟩
      · cases h
theorem castK_mem {c : Nat → Int} {r0 : Nat} {m : M3} : ∀ {k : Nat}, m ∈ castK c r0 k → ∃ j, j < k ∧ castP c (r0 + j) ∧ m = (homeK (r0 + j : Nat), homeK (r0 + j : Nat) + 2 * cW (r0 + j : Nat), 0)
  | 0, h => by cases h
  | k + 1, h => by
    rcases List.mem_append.1 h with h | h
    · obtain ⟨j, h1, h2⟩ := castK_mem h; exact ⟨j, by omega, h2⟩
    · split at h
      · simp only [List.mem_cons, List.not_mem_nil, or_false] at h
        exact ⟨k, by omega, by assumption, h⟩
      · cases h
theorem pseuL_bd {c : Nat → Int} (h64 : 0 ≤ c 64 ∧ c 64 ≤ 1) : ∀ m ∈ pseuL c, mBd m := by
  intro m hm
  have hm := (ordL_perm _).mem_iff.1 hm
  rcases List.mem_append.1 hm with hm | hm
  · obtain ⟨j, i, h1, _, h2, h3⟩ := pseuK_mem hm
    have := tgtL_bd c (f := j) (by omega) _ (iAt_mem h2)
    exact movL_bd (by omega) (by omega) m h3
  · obtain ⟨j, h1, _, rfl⟩ := castK_mem hm
    have := home_facts (r := (2 * c 64).toNat + j) (by omega)
    refine ⟨?_, ?_, by simp⟩ <;> simp only <;> omega
def madeM (c : Nat → Int) (m : M3) : Nat → Int := madeC c m.1 m.2.1 m.2.2
def atK (c : Nat → Int) (m : M3) : Int := if m.1 = kingI c (c 64) then m.2.1 else kingI c (c 64)
noncomputable def legB (c : Nat → Int) (m : M3) : Bool := decide (atK c m < 0) || !attB (madeM c m) (atK c m) (1 - c 64)
noncomputable def legK (c : Nat → Int) (i : Nat) : List M3 := ((pseuL c).take i).filter (legB c)
noncomputable def legL (c : Nat → Int) : List M3 := (pseuL c).filter (legB c)
theorem legK_yes {c : Nat → Int} {i : Nat} (h : i < (pseuL c).length) (hp : legB c (mAt (pseuL c) i) = true) : legK c (i + 1) = legK c i ++ [mAt (pseuL c) i] := by
  unfold legK
  rw [List.take_add_one, mAt_get h, Option.toList_some, List.filter_append]
  rw [show [mAt (pseuL c) i].filter (legB c) = [mAt (pseuL c) i] by simp [hp]]
theorem legK_no {c : Nat → Int} {i : Nat} (h : i < (pseuL c).length) (hp : legB c (mAt (pseuL c) i) = false) : legK c (i + 1) = legK c i := by
  unfold legK
  rw [List.take_add_one, mAt_get h, Option.toList_some, List.filter_append]
  simp [hp]
theorem legK_end {c : Nat → Int} {i : Nat} (h : i = (pseuL c).length) : legK c i = legL c := by rw [legK, h, List.take_length]; rfl
theorem pseuL_len0 (c : Nat → Int) : (pseuL c).length = (pseuK c 64).length + (castL c).length := by
  rw [← List.length_append]; exact ordL_len _
theorem pseuL_len (c : Nat → Int) : (pseuL c).length ≤ 20000 := by
  have h1 := pseuK_len c 64
  have h2 := castL_len c
  have h3 := pseuL_len0 c
  generalize (pseuK c 64).length = a at h1 h3
  generalize (castL c).length = b at h2 h3
  rw [h3]; omega
theorem legK_len (c : Nat → Int) (i : Nat) : (legK c i).length ≤ 20000 := by
  have h1 := pseuL_len c
  have h2 := List.length_filter_le (legB c) ((pseuL c).take i)
  have h3 : ((pseuL c).take i).length ≤ (pseuL c).length := by rw [List.length_take]; omega
  unfold legK; omega
theorem made_okM (c : Nat → Int) {m : M3} (hm : mBd m) (hb : Bd c) (h64 : 0 ≤ c 64 ∧ c 64 ≤ 1) (h65 : 0 ≤ c 65 ∧ c 65 ≤ 15) (h67 : 0 ≤ c 67 ∧ c 67 ≤ 1000000) (h68 : 0 ≤ c 68 ∧ c 68 ≤ 1000000) :
    FnP (Tz z) 13 [posV c, .agg (mB m).toArray] (posV (madeM c m)) := made_ok c hm.1 hm.2.1 ⟨hm.2.2.1, by have := hm.2.2.2; omega⟩ hb h64 h65 h67 h68
theorem madeM_bd {c : Nat → Int} {m : M3} (hm : mBd m) (hb : Bd c) (h64 : 0 ≤ c 64 ∧ c 64 ≤ 1) : Bd (madeM c m) := madeC_bd hm.1 hb h64 ⟨hm.2.2.1, by have := hm.2.2.2; omega⟩
theorem flI_m {m : M3} {pl : Nat → Option (Nat × Nat)} {a b d : Value} : flI (mB m).length 3 3 0 pl [a, b, d] (mB m) [] = some (mB m) := rfl
structure PosOk (c : Nat → Int) : Prop where
  bd : Bd c
  pawns : ∀ k : Nat, k < 64 → kindOf (c k) = 6 → 8 ≤ (k : Int) ∧ (k : Int) ≤ 55
  turn : 0 ≤ c 64 ∧ c 64 ≤ 1
  cast : 0 ≤ c 65 ∧ c 65 ≤ 15
  half : 0 ≤ c 67 ∧ c 67 ≤ 1000000
  full : 0 ≤ c 68 ∧ c 68 ≤ 1000000
theorem pseudo_okC {c : Nat → Int} (h : PosOk c) : FnM (Tz z) 26 [posV c] [] (fun p : List Value × Nat => slOk 3 (pseuL c).length (msL (pseuL c)) (some p)) (fun p => slH 100 (pseuL c).length (some p)) (fun p => slM 38 (msL (pseuL c)) (some p)) := pseudo_ok c h.bd h.pawns h.turn h.cast
attribute [local irreducible] legK legL pseuL madeM attB kingI in
set_option maxHeartbeats 4000000 in
theorem legal_ok (c : Nat → Int) (hc : PosOk c) : FnM (Tz z) 12 [posV c] [] (fun h : Hold => slOk 3 (legL c).length (msL (legL c)) h) (slH 100 (legL c).length) (slM 38 (msL (legL c))) := by
  have h64 := hc.turn
  have hpl := pseuL_len c
  have hki := kingI_bd c (c 64)
  refine ⟨by simp [posV_pl, Pl.wf], by simp, ?_, CallM.shiftX (start [0, 1, 2, 3, 4, 5, 6, 7, 17, 27, 48] Tryz.func12 rfl (by decide) rfl (by kernel_rfl) (by simp [Tryz.f12]) ?_)⟩
  · rintro (_ | ⟨tl, cap⟩) h o ho
    · simp [slM] at ho
    · simp only [slM, List.length_nil, List.drop_zero, List.mem_cons, List.not_mem_nil, or_false] at ho; subst ho; rfl
  simp only [Tryz.f12]
  unfold posV
  repeat' (first | ((with_reducible refine call_fr (pseudo_okC hc) [] ?_ ?_ ?_ ?_); (· kernel_rfl); (· exact trivial); (· rfl); intro xx hx0; obtain ⟨tl0, cap0⟩ := xx; rw [fix_sl (con := msL (pseuL c)) (pl_app (msL_pl _) hx0.2.2.2)]; simp only [slH_some, rl_slS, List.length_cons, List.length_nil, Nat.zero_add, Nat.reduceAdd, List.cons_append, List.nil_append]) | ((with_reducible refine loop (c := Code.seq (Code.seq (Code.region 5 _ _) _) _) (V := [0, 1, 2, 3, 4, 5, 6, 7, 17, 27, 48]) (fun y : Nat × Hold => ([(1, .pointer (some ⟨100, 0, none⟩)), (3, slH 102 (legK c y.1).length y.2), (4, .slice (some ⟨101, 0, none⟩) (pseuL c).length cap0), (5, .int .i64 (kingI c (c 64))), (6, .int .i64 y.1)], [.cells (ints .i64 69 c) 24, .cells (msL (pseuL c) ++ tl0) 38, slB 38 (msL (legK c y.1)) y.2])) (fun y => y.1 ≤ (pseuL c).length ∧ slOk 3 (legK c y.1).length (msL (legK c y.1)) y.2) (fun y => (pseuL c).length - y.1) (0, none) (by kernel_rfl) ?_ ?_ (fun y hk => ?_)); (· exact ⟨Nat.zero_le _, by simp [slOk, legK, msL]⟩); (· exact VS.holex (L := [.cells (ints .i64 69 c) 24, .cells (msL (pseuL c) ++ tl0) 38]) (by simp) ⟨plW (ints_pl _ _ _), plW (pl_app (msL_pl _) hx0.2.2.2), trivial⟩ (by simp [subW, Fr.get, slH, wf_int, wf_pt, wf_nils, wf_sl, legK])); obtain ⟨i, h⟩ := y; obtain ⟨hk1, hk2⟩ := hk; simp only at hk1 hk2; have hln := legK_len c i; have hmb := fun hlt : i < (pseuL c).length => pseuL_bd h64 _ (mAt_mem hlt)) | (have hm := hmb (by omega); have hm2 := hm.2.1; have hm1 := hm.1; clear hmb) | ((with_reducible refine app_k ?_); refine app_hold (X := Tz z) (i := 2) (e := 38) (sz := 3) (b := 24) (m := 1) (h := h) (con := msL (legK c i)) (n := (legK c i).length) (zc := [.int .i64 0, .int .i64 0, .int .i64 0]) (news := mB (mAt (pseuL c) i)) (by kernel_rfl) (by kernel_rfl) rfl (by simp [Pl.int]) (src_own (j := 3) rfl (by kernel_rfl) rfl) rfl rfl (by decide) rfl hk2 (by omega) (by omega) (fun tl cap hcap => ⟨?_, ?_⟩)) | (with_reducible first | refine draw (by kernel_rfl) (by kernel_rfl) ?_ | refine call_p (kingAt_ok c (by omega)) ?_ | refine qG_call (kingAt_ok c (by omega)) ?_ | refine zG_call (kingAt_ok c (by omega)) ?_ | refine yG_call (kingAt_ok c (by omega)) ?_ | refine piG_call (kingAt_ok c (by omega)) ?_ | refine call_p (made_okM c hm hc.bd hc.turn hc.cast hc.half hc.full) ?_ | refine qG_call (made_okM c hm hc.bd hc.turn hc.cast hc.half hc.full) ?_ | refine zG_call (made_okM c hm hc.bd hc.turn hc.cast hc.half hc.full) ?_ | refine yG_call (made_okM c hm hc.bd hc.turn hc.cast hc.half hc.full) ?_ | refine piG_call (made_okM c hm hc.bd hc.turn hc.cast hc.half hc.full) ?_ | refine call_p (attacked_ok _ (by omega) (by omega) (madeM_bd hm hc.bd h64)) ?_ | refine qG_call (attacked_ok _ (by omega) (by omega) (madeM_bd hm hc.bd h64)) ?_ | refine zG_call (attacked_ok _ (by omega) (by omega) (madeM_bd hm hc.bd h64)) ?_ | refine yG_call (attacked_ok _ (by omega) (by omega) (madeM_bd hm hc.bd h64)) ?_ | refine piG_call (attacked_ok _ (by omega) (by omega) (madeM_bd hm hc.bd h64)) ?_ | refine seq_k fun K hK => ?_) | (with_reducible refine hK _ _ ?_; clear hK) | ((with_reducible first | refine gd_dec ?_ ?_ | refine gd_ndec ?_ ?_ | refine qC_dec ?_ ?_ | refine qC_ndec ?_ ?_ | refine piC_dec ?_ ?_ | refine piC_ndec ?_ ?_ | refine zC_dec ?_ ?_ | refine zC_ndec ?_ ?_ | refine zD_dec ?_ ?_ | refine yC_dec ?_ ?_ | refine yC_ndec ?_ ?_ | refine if_dec ?_ ?_ | refine if_ndec ?_ ?_) <;> intro hh) | simp -implicitDefEqProofs (disch := first | omega | assumption) only [go_sem, ↓reduceIte, Nat.reduceEqDiff, Int.reduceEq, Nat.reduceAdd, Nat.reduceSub, Nat.reduceMul, Nat.mul_one, Nat.one_mul, List.length_nil, List.length_cons, List.nil_append, List.cons_append, List.length_append, List.set_cons_zero, List.set_cons_succ, Nat.zero_add, Nat.sub_zero, Option.isNone_none, Option.isNone_some, Int.toNat_natCast, Nat.add_sub_cancel_left, Bool.not_true, Bool.not_false, BitVec.reduceOfInt, Int.reduceToNat, msL_sub, msL_g0, msL_g00, msL_g1, flI_m] | ((with_reducible first | refine gd_bool ?_ ?_ | refine if_bool ?_ ?_ | refine qC_bool ?_ ?_ | refine piC_bool ?_ ?_ | refine zC_bool ?_ ?_ | refine zD_bool ?_ ?_ | refine yC_bool ?_ ?_) <;> intro hh) | clear hK)
  all_goals first
    | (have hat : atK c (mAt (pseuL c) i) = (mAt (pseuL c) i).2.1 := if_pos (by assumption)
       have e := legK_no (c := c) (i := i) (by omega) (by unfold legB; rw [hat]; simp_all)
       refine ⟨(i + 1, h), ⟨by simp only; omega, by rw [e]; exact hk2⟩, by simp only; omega, VS.sub2 ?_ (by rw [e])⟩
       simp only [e]; simp [Fr.sub, Fr.get]; (try omega); done)
    | (have hat : atK c (mAt (pseuL c) i) = kingI c (c 64) := if_neg (by assumption)
       have e := legK_no (c := c) (i := i) (by omega) (by unfold legB; rw [hat]; simp_all)
       refine ⟨(i + 1, h), ⟨by simp only; omega, by rw [e]; exact hk2⟩, by simp only; omega, VS.sub2 ?_ (by rw [e])⟩
       simp only [e]; simp [Fr.sub, Fr.get]; (try omega); done)
    | (have hat : atK c (mAt (pseuL c) i) = (mAt (pseuL c) i).2.1 ∨ atK c (mAt (pseuL c) i) = kingI c (c 64) := by
        by_cases hq : (mAt (pseuL c) i).1 = kingI c (c 64)
        · exact .inl (if_pos hq)
        · exact .inr (if_neg hq)
       have e := legK_yes (c := c) (i := i) (by omega) (by unfold legB atK; simp_all)
       have hcap' : slOk 3 (legK c (i + 1)).length (msL (legK c (i + 1))) (some (tl, cap)) := by
        rw [e, msL_app, msL_one, List.length_append]; exact hcap
       first
         | (refine ⟨(i + 1, some (tl, cap)), ⟨by simp only; omega, hcap'⟩, by simp only; omega, VS.mvx 2 2 (by decide) (by simp) (by simp) (by simp) (by simp) ?_ (by simp [eqX, slB]) ?_ ?_⟩
            · simp [slB, msL_app, msL_one, e]
            · exact ⟨plO _ (ints_pl _ _ _), plO _ (pl_app (msL_pl _) hx0.2.2.2), slB_C (msL_pl _) hcap', trivial⟩
            · simp only [e]; simp [mvF, Fr.get, slH, mvS, wf_int, wf_bool, wf_sl, wf_pt, wf_nils, wf_str]; (try omega); done)
         | (refine ⟨(i + 1, some (tl, cap)), ⟨by simp only; omega, hcap'⟩, by simp only; omega, VS.mvx 2 4 (by decide) (by simp) (by simp) (by simp) (by simp) ?_ (by simp [eqX, slB]) ?_ ?_⟩
            · simp [slB, msL_app, msL_one, e]
            · exact ⟨plO _ (ints_pl _ _ _), plO _ (pl_app (msL_pl _) hx0.2.2.2), slB_C (msL_pl _) hcap', trivial⟩
            · simp only [e]; simp [mvF, Fr.get, slH, mvS, wf_int, wf_bool, wf_sl, wf_pt, wf_nils, wf_str]; (try omega); done))
    | (have e := legK_end (c := c) (i := i) (by omega)
       rw [e] at hk2 ⊢
       exact ⟨h, hk2, VS.outH (p := 2) rfl (msL_pl _) hk2⟩)
end Go.Tb
end
section
namespace Go.Tb
open Go Go.Proofs
variable {z : Nat × Nat}
set_option maxRecDepth 20000
def tkB (c : Nat → Int) (m : M3) : Bool := takesIs c m.1 m.2.1
def psB (c : Nat → Int) (m : M3) : Bool := tkB c m && !decide (takesSq c m.1 m.2.1 = m.2.1)
def ksB (c : Nat → Int) (m : M3) : Bool := decide (isCastle c m.1 m.2.1)
noncomputable def ckB (c : Nat → Int) (m : M3) : Bool := chkB (madeM c m) (madeM c m 64)
noncomputable def mtB (c : Nat → Int) (m : M3) : Bool := ckB c m && decide ((legL (madeM c m)).length = 0)
noncomputable def stB (c : Nat → Int) (m : M3) : Bool := !ckB c m && decide ((legL (madeM c m)).length = 0)
def b8 (a b d e f g h i : Bool) : Nat → Bool
  | 0 => a
  | 1 => b
  | 2 => d
  | 3 => e
  | 4 => f
  | 5 => g
  | 6 => h
  | _ => i
noncomputable def flagB (c : Nat → Int) (m : M3) : Nat → Bool := b8 false (tkB c m) (psB c m) (ksB c m) (!decide (m.2.2 = 0)) (ckB c m) (mtB c m) (stB c m)
noncomputable def tagI (c : Nat → Int) (m : M3) (i : Nat) : Int := (if i = 0 then 1 else 0) + if flagB c m i = true then 1 else 0
abbrev TR := (Nat → Int) × Bool × Int
def tLoop (G : M3 → Int → TR) : List M3 → (Nat → Int) → Int → TR
  | [], n, w => (n, true, w)
  | m :: ms, n, w => if (G m w).2.1 = true then tLoop G ms (fun i => n i + (G m w).1 i) (G m w).2.2 else (n, false, (G m w).2.2)
def zeroF : Nat → Int := fun _ => 0
noncomputable def dbtB (c : Nat → Int) (m : M3) : Bool := doubtB c m.1 m.2.1 m.2.2
noncomputable def tallyF : Nat → (Nat → Int) → Int → TR
  | 0, _, w => (zeroF, false, w)
  | 1, c, w => if 218 < (legL c).length then (zeroF, false, w) else
      tLoop (fun m w => if w - 1 < 0 ∨ dbtB c m = true then (zeroF, false, w - 1) else if 218 < (legL (madeM c m)).length then (zeroF, false, w - 1) else (tagI c m, true, w - 1)) (legL c) zeroF w
  | d + 2, c, w => if 218 < (legL c).length then (zeroF, false, w) else
      tLoop (fun m w => if w - 1 < 0 ∨ dbtB c m = true then (zeroF, false, w - 1) else tallyF (d + 1) (madeM c m) (w - 1)) (legL c) zeroF w
def PosD : Nat → (Nat → Int) → Prop
  | 0, c => PosOk c
  | d + 1, c => PosOk c ∧ ∀ m ∈ legL c, PosD d (madeM c m)
theorem PosD.ok : ∀ {d : Nat} {c : Nat → Int}, PosD d c → PosOk c
  | 0, _, h => h
  | _ + 1, _, h => h.1
def TrB (w : Int) (r : TR) : Prop := (r.2.1 = true → 0 ≤ r.2.2) ∧ -1 ≤ r.2.2 ∧ r.2.2 ≤ w ∧ ∀ i, 0 ≤ r.1 i ∧ r.1 i ≤ w - r.2.2
theorem tLoop_bd {G : M3 → Int → TR} (hG : ∀ m w, 0 ≤ w → TrB w (G m w)) (W : Int) : ∀ (l : List M3) (n : Nat → Int) (w : Int), 0 ≤ w → w ≤ W → (∀ i, 0 ≤ n i ∧ n i ≤ W - w) → TrB W (tLoop G l n w)
  | [], n, w, h0, h1, h2 => ⟨fun _ => h0, by show -1 ≤ w; omega, h1, h2⟩
  | m :: ms, n, w, h0, h1, h2 => by
    obtain ⟨g0, g1, g2, g3⟩ := hG m w h0
    simp only [tLoop]
    split
    · rename_i hok
      refine tLoop_bd hG W ms _ _ (g0 hok) (by omega) fun i => ?_
      have a := h2 i
      have b := g3 i
      omega
    · refine ⟨fun h => (by cases h), g1, by show (G m w).2.2 ≤ W; omega, fun i => ?_⟩
      have a := h2 i
      show 0 ≤ n i ∧ n i ≤ W - (G m w).2.2
      omega
theorem tagI_bd (c : Nat → Int) (m : M3) (i : Nat) : 0 ≤ tagI c m i ∧ tagI c m i ≤ 1 := by
  unfold tagI
  by_cases h : i = 0
  · subst h
    have : flagB c m 0 = false := rfl
    simp [this]
  · rw [if_neg h]; split <;> omega
theorem tallyF_bd : ∀ (d : Nat) (c : Nat → Int) (w : Int), 0 ≤ w → TrB w (tallyF d c w)
  | 0, c, w, h => ⟨fun h => (by cases h), by show -1 ≤ w; omega, Int.le_refl w, fun i => by show (0 : Int) ≤ 0 ∧ (0 : Int) ≤ w - w; omega⟩
  | 1, c, w, h => by
    simp only [tallyF]
    split
    · exact ⟨fun h => (by cases h), by show -1 ≤ w; omega, Int.le_refl w, fun i => by show (0 : Int) ≤ 0 ∧ (0 : Int) ≤ w - w; omega⟩
    · refine tLoop_bd (fun m w h => ?_) w _ _ _ h (Int.le_refl w) fun i => by show (0 : Int) ≤ 0 ∧ (0 : Int) ≤ w - w; omega
      split
      · exact ⟨fun h => (by cases h), by show -1 ≤ w - 1; omega, by show w - 1 ≤ w; omega, fun i => by show (0 : Int) ≤ 0 ∧ (0 : Int) ≤ w - (w - 1); omega⟩
      · rename_i hn
        split
        · exact ⟨fun h => (by cases h), by show -1 ≤ w - 1; omega, by show w - 1 ≤ w; omega, fun i => by show (0 : Int) ≤ 0 ∧ (0 : Int) ≤ w - (w - 1); omega⟩
        · refine ⟨fun _ => ?_, by show -1 ≤ w - 1; omega, by show w - 1 ≤ w; omega, fun i => ?_⟩
          · show 0 ≤ w - 1
            rcases Int.lt_or_le (w - 1) 0 with h9 | h9
            · exact absurd (.inl h9) hn
            · exact h9
          · have := tagI_bd c m i
            show 0 ≤ tagI c m i ∧ tagI c m i ≤ w - (w - 1)
            omega
  | d + 2, c, w, h => by
    simp only [tallyF]
    split
    · exact ⟨fun h => (by cases h), by show -1 ≤ w; omega, Int.le_refl w, fun i => by show (0 : Int) ≤ 0 ∧ (0 : Int) ≤ w - w; omega⟩
    · refine tLoop_bd (fun m w h => ?_) w _ _ _ h (Int.le_refl w) fun i => by show (0 : Int) ≤ 0 ∧ (0 : Int) ≤ w - w; omega
      split
      · exact ⟨fun h => (by cases h), by show -1 ≤ w - 1; omega, by show w - 1 ≤ w; omega, fun i => by show (0 : Int) ≤ 0 ∧ (0 : Int) ≤ w - (w - 1); omega⟩
      · rename_i hn
        have h9 : 0 ≤ w - 1 := by
          rcases Int.lt_or_le (w - 1) 0 with h9 | h9
          · exact absurd (.inl h9) hn
          · exact h9
        obtain ⟨g0, g1, g2, g3⟩ := tallyF_bd (d + 1) (madeM c m) (w - 1) h9
        exact ⟨g0, g1, by omega, fun i => by have := g3 i; omega⟩
structure TSt where
  k : Nat
  n : Nat → Int
  w : Int
def tGood (G : M3 → Int → TR) (l : List M3) (W : Int) (R : TR) (s : TSt) : Prop := s.k ≤ l.length ∧ tLoop G (l.drop s.k) s.n s.w = R ∧ 0 ≤ s.w ∧ s.w ≤ W ∧ ∀ i, 0 ≤ s.n i ∧ s.n i ≤ W - s.w
theorem drop_mAt {l : List M3} {k : Nat} (h : k < l.length) : l.drop k = mAt l k :: l.drop (k + 1) := by
  rw [List.drop_eq_getElem_cons h]
  congr 1
  have := mAt_get h
  rw [List.getElem?_eq_getElem h] at this
  exact Option.some.inj this
theorem tGood_yes {G : M3 → Int → TR} {l : List M3} {W : Int} {R : TR} {s : TSt} (hG : ∀ m w, 0 ≤ w → TrB w (G m w)) (h : tGood G l W R s) (hk : s.k < l.length) (hok : (G (mAt l s.k) s.w).2.1 = true) : tGood G l W R ⟨s.k + 1, fun i => s.n i + (G (mAt l s.k) s.w).1 i, (G (mAt l s.k) s.w).2.2⟩ := by
  obtain ⟨h1, h2, h3, h4, h5⟩ := h
  obtain ⟨g0, g1, g2, g3⟩ := hG (mAt l s.k) s.w h3
  rw [drop_mAt hk, tLoop, if_pos hok] at h2
  exact ⟨hk, h2, g0 hok, by show (G _ _).2.2 ≤ W; omega, fun i => by have a := h5 i; have b := g3 i; show 0 ≤ s.n i + (G (mAt l s.k) s.w).1 i ∧ s.n i + (G (mAt l s.k) s.w).1 i ≤ W - (G (mAt l s.k) s.w).2.2; omega⟩
theorem tGood_no {G : M3 → Int → TR} {l : List M3} {W : Int} {R : TR} {s : TSt} (h : tGood G l W R s) (hk : s.k < l.length) (hok : (G (mAt l s.k) s.w).2.1 = false) : R = (s.n, false, (G (mAt l s.k) s.w).2.2) := by
  obtain ⟨h1, h2, h3, h4, h5⟩ := h
  rw [drop_mAt hk, tLoop, if_neg (by rw [hok]; simp)] at h2
  exact h2.symm
theorem tGood_end {G : M3 → Int → TR} {l : List M3} {W : Int} {R : TR} {s : TSt} (h : tGood G l W R s) (hk : s.k = l.length) : R = (s.n, true, s.w) := by
  obtain ⟨h1, h2, h3, h4, h5⟩ := h
  rw [hk, List.drop_length, tLoop] at h2
  exact h2.symm
theorem pl_int1 (w : Int) : ∀ v ∈ [Value.int .i64 w], Pl v := by simp [Pl.int]
end Go.Tb
end
section
namespace Go.Tb
open Go Go.Proofs
set_option maxRecDepth 20000
structure InvC (c : Nat → Int) : Prop where
  bd : Bd c
  pawns : ∀ k : Nat, k < 64 → kindOf (c k) = 6 → 8 ≤ (k : Int) ∧ (k : Int) ≤ 55
  turn : 0 ≤ c 64 ∧ c 64 ≤ 1
  cast : 0 ≤ c 65 ∧ c 65 ≤ 15
  king : ∀ b : Int, b = 0 ∨ b = 1 → ∃ k : Nat, k < 64 ∧ c k = 1 + 6 * b ∧ ∀ i : Nat, i < 64 → c i = 1 + 6 * b → i = k
  rights : rightsN c 4 = c 65
  ep : c 66 = -1 ∨ (c 66 / 8 = 5 - 3 * c 64 ∧ (0 ≤ c 66 ∧ c 66 ≤ 63) ∧ c (c 66).toNat = 0 ∧ c (c 66 - 8 * upOf (c 64)).toNat = 6 + 6 * (1 - c 64))
  safe : attB c (kingI c (1 - c 64)) (c 64) = false
theorem countI_one {p : Nat → Bool} {n : Nat} (h : countI p n = 1) : ∃ k, k < n ∧ p k = true ∧ ∀ i, i < n → p i = true → i = k := by
  unfold countI at h
  obtain ⟨k, hk⟩ := List.length_eq_one_iff.1 h
  have hm : ∀ i, i ∈ (List.range n).filter p ↔ i = k := fun i => by rw [hk]; simp
  have := (hm k).2 rfl
  rw [List.mem_filter, List.mem_range] at this
  exact ⟨k, this.1, this.2, fun i h1 h2 => (hm i).1 (List.mem_filter.2 ⟨List.mem_range.2 h1, h2⟩)⟩
theorem kingI_eq {c : Nat → Int} {b : Int} {k : Nat} (hk : k < 64) (h : c k = 1 + 6 * b) (hu : ∀ i : Nat, i < 64 → c i = 1 + 6 * b → i = k) : kingI c b = k := by
  refine findI_at hk (decide_eq_true h) fun i hi => ?_
  exact decide_eq_false fun e => by have := hu i (by omega) e; omega
theorem InvC.kingAt {c : Nat → Int} (h : InvC c) {b : Int} (hb : b = 0 ∨ b = 1) : ∃ k : Nat, k < 64 ∧ c k = 1 + 6 * b ∧ kingI c b = k ∧ ∀ i : Nat, i < 64 → c i = 1 + 6 * b → i = k := by
  obtain ⟨k, h1, h2, h3⟩ := h.king b hb
  exact ⟨k, h1, h2, kingI_eq h1 h2 h3, h3⟩
theorem inv_of_valid {c : Nat → Int} (h : ValidC c) : InvC c := by
  have hbd : Bd c := fun i hi => ⟨(h.cells i hi).1, (h.cells i hi).2.1⟩
  refine ⟨hbd, fun k hk hp => ?_, h.turn, h.castle, fun b hb => ?_, h.rights, ?_, h.safe⟩
  · have h1 := (h.cells k hk).2.2 hp (fun e => by rw [e] at hp; cases hp)
    omega
  · have hc : cntI c (1 + 6 * b) 64 = 1 := by
      rcases hb with rfl | rfl
      · exact_mod_cast h.white
      · exact_mod_cast h.black
    obtain ⟨k, h1, h2, h3⟩ := countI_one hc
    exact ⟨k, h1, of_decide_eq_true h2, fun i hi e => h3 i hi (decide_eq_true e)⟩
  · have hp := h.pass
    have ht := h.turn
    unfold passB at hp
    split at hp
    · exact .inl (of_decide_eq_true hp)
    · split at hp
      · cases hp
      · rename_i h1 h2
        rw [Bool.and_eq_true, decide_eq_true_eq, decide_eq_true_eq] at hp
        have hr : c 66 / 8 = 5 - 3 * c 64 := Classical.byContradiction fun e => h2 (.inl e)
        have hz : c (c 66).toNat = 0 := Classical.byContradiction fun e => h2 (.inr e)
        refine .inr ⟨hr, by omega, hz, ?_⟩
        have e : atSq (c 66 % 8) (c 66 / 8 - (1 - 2 * c 64)) = c 66 - 8 * upOf (c 64) := by
          unfold atSq upOf; rw [if_neg (by omega)]; omega
        rw [← e]; exact hp.1
section
variable {c : Nat → Int} {B : Brd}
theorem pieceAt_rep (h : RepB c B) (hb : Bd c) {s : Nat} (hs : s < 64) : pieceAt B s = c s := by
  have hbd := hb s hs
  unfold pieceAt
  cases hf : (List.range 12).find? (fun k => occB (B.f k) (s : Int)) with
  | none =>
    rw [List.find?_eq_none] at hf
    show (0 : Int) = c s
    refine Classical.byContradiction fun h0 => ?_
    have := hf (c s - 1).toNat (List.mem_range.2 (by omega))
    rw [h.f _ (by omega) s hs] at this
    exact this (decide_eq_true (by omega))
  | some k =>
    have h1 := List.find?_some hf
    have h2 := List.mem_range.1 (List.mem_of_find?_eq_some hf)
    rw [h.f k h2 s hs, decide_eq_true_eq] at h1
    exact h1.symm
theorem kind_typ {n : Int} (h : 0 ≤ n ∧ n ≤ 12) : pTyp n = kindOf n := by
  unfold pTyp kindOf; split <;> split <;> omega
theorem col_side {n : Int} (h : 1 ≤ n ∧ n ≤ 12) : pCol n = sideOf n + 1 := by
  unfold pCol sideOf; split <;> split <;> first | omega | (split <;> omega)
theorem inChk_iff (h : RepB c B) (hb : Bd c) {D : Pd} {s : Int} (hs : s = 0 ∨ s = 1) (hD : D.turn = s + 1) {k : Nat} (hk : k < 64) (hkk : kingI c s = k) : inChk D B = attB c k (1 - s) := by
  unfold inChk
  have e : (if D.turn = 2 then B.bks else B.wks) = (k : Int) := by
    rcases hs with rfl | rfl
    · rw [if_neg (by omega), h.wks, hkk]
    · rw [if_pos (by omega), h.bks, hkk]
  rw [e]
  simp only
  rw [if_neg (by omega), attS_iff h hb (by omega) hk, hD]
  congr 1; omega
end
end Go.Tb
end
section
namespace Go.Tb
open Go Go.Proofs
variable {z : Nat × Nat}
set_option maxRecDepth 20000
def regOps (id : Nat) : Code → Option (Array Oper)
  | .region i ops _ => if i = id then some ops else none
  | .seq a b => match regOps id a with | some x => some x | none => regOps id b
  | .cond _ a b => match regOps id a with | some x => some x | none => regOps id b
  | .block _ c => regOps id c
  | .loop c => regOps id c
  | .scope c => regOps id c
  | _ => none
noncomputable def rops (f : Func) (id : Nat) : Array Oper := (regOps id (f.body.getD .skip)).getD #[]
theorem draw4m {X : Cx} {N n0 : Nat} {D : List Deferred} {id : Nat} {l : List Oper} {K : Fr → List AO → Prop} {fr : Fr} {L : List AO} (ss : List Step) (bs : List Bool) (hb : bs = ss.map stepY) (hB : (drawB l.toArray (idPl 0 ss) && (l.toArray.size == ss.length) && ss.all noJs) = true) (hd : l.all (dstIn N) = true) (h : ∀ l' bs', l' = l → bs' = bs → wpPy X l' l' bs' fr L K) : DrawM X N D n0 id l.toArray K fr L :=
  draw4l ss bs hb hB hd fun bs' hb' => h l bs' rfl hb'
def ssCopy : List Step := (List.replicate 17 [Step.q, Step.q, Step.q, Step.r]).flatten ++ [.q, .e [], .q]
set_option maxHeartbeats 0 in
theorem copyDraw : (drawB (rops Tryz.f45 1) (idPl 0 ssCopy) && ((rops Tryz.f45 1).size == ssCopy.length) && ssCopy.all noJs) = true := by kernel_rfl
set_option maxHeartbeats 0 in
theorem bcopy_ok (B : Brd) : FnM (Tz z) 45 [.pointer (some ⟨100, 0, none⟩)] [.cells (boardL B) 110] (fun _ : Unit => True) (fun _ => .pointer (some ⟨101, 0, none⟩)) (fun _ => [.cells (boardL B) 110, .cells (boardL B) 110]) := by
  refine ⟨?_, ?_, fun _ _ o ho => ?_, start [0, 2] Tryz.func45 rfl (by decide) rfl (by kernel_rfl) (by simp [Tryz.f45]) ?_⟩
  · intro u hu
    simp only [List.mem_cons, List.not_mem_nil, or_false] at hu
    subst hu; exact WF_ptrN (by simp)
  · intro o ho
    simp only [List.mem_cons, List.not_mem_nil, or_false] at ho
    subst ho; exact fun u hu => (boardL_pl B u hu).wf _
  · simp at ho; subst ho; rfl
  simp only [Tryz.f45]
  repeat' (first | ((with_reducible refine draw4m (id := 1) ssCopy (List.replicate 69 false ++ [true, false]) (by kernel_rfl) (Eq.trans (b := (drawB (rops Tryz.f45 1) (idPl 0 ssCopy) && ((rops Tryz.f45 1).size == ssCopy.length) && ssCopy.all noJs)) (by kernel_rfl) copyDraw) (by kernel_rfl) ?_); intro l' bs' hl' hb'; simp only [List.append_eq, List.cons_append, List.nil_append] at hl'; simp only [List.replicate_succ, List.replicate_zero, List.cons_append, List.nil_append] at hb'; subst hl'; subst hb') | with_reducible apply py_e | with_reducible refine seq_k fun K hK => ?_ | (with_reducible refine hK _ _ ?_; clear hK) | ((with_reducible first | refine gd_dec ?_ ?_ | refine gd_ndec ?_ ?_ | refine qC_dec ?_ ?_ | refine qC_ndec ?_ ?_ | refine piC_dec ?_ ?_ | refine piC_ndec ?_ ?_ | refine zC_dec ?_ ?_ | refine zC_ndec ?_ ?_ | refine zD_dec ?_ ?_ | refine yC_dec ?_ ?_ | refine yC_ndec ?_ ?_ | refine if_dec ?_ ?_ | refine if_ndec ?_ ?_) <;> intro hh) | simp -implicitDefEqProofs (disch := first | omega | assumption) only [go_sem, ↓reduceIte, Nat.reduceEqDiff, Int.reduceEq, Nat.reduceAdd, Nat.reduceSub, Nat.reduceMul, Nat.mul_one, Nat.one_mul, List.length_nil, List.length_cons, List.nil_append, List.cons_append, List.length_append, List.set_cons_zero, List.set_cons_succ, Nat.zero_add, Nat.sub_zero, Option.isNone_none, Option.isNone_some, Int.toNat_natCast, Nat.add_sub_cancel_left, Bool.not_true, Bool.not_false, BitVec.reduceOfInt, Int.reduceToNat] | ((with_reducible first | refine gd_bool ?_ ?_ | refine if_bool ?_ ?_ | refine qC_bool ?_ ?_ | refine piC_bool ?_ ?_ | refine zC_bool ?_ ?_ | refine zD_bool ?_ ?_ | refine yC_bool ?_ ?_) <;> intro hh) | clear hK)
  exact ⟨(), trivial, trivial, rfl⟩
end Go.Tb
end
section
namespace Go.Tb
open Go Go.Proofs
variable {z : Nat × Nat}
set_option maxRecDepth 20000
set_option maxHeartbeats 2000000 in
theorem pcopy_ok (D : Pd) (B : Brd) : FnM (Tz z) 100 [.pointer (some ⟨100, 0, none⟩)] [.cells (psL 101 nilS D) 82, .cells (boardL B) 110] (fun _ : Unit => True) (fun _ => .pointer (some ⟨103, 0, none⟩)) (fun _ => [.cells (psL 101 nilS D) 82, .cells (boardL B) 110, .cells (boardL B) 110, .cells (psL 102 nilS D) 82]) := by
  refine ⟨?_, pb_wl D B, fun _ _ o ho => ?_, start [0, 2] Tryz.func100 rfl (by decide) rfl (by kernel_rfl) (by simp [Tryz.f100]) ?_⟩
  · intro u hu
    simp only [List.mem_cons, List.not_mem_nil, or_false] at hu
    subst hu; exact WF_ptrN (by simp)
  · simp at ho; rcases ho with rfl | rfl <;> rfl
  simp only [Tryz.f100]
  repeat' (first | (with_reducible first | refine draw2 (id := 1) [(0, .q), (1, .q), (2, .q), (3, .r), (5, .q), (6, .q), (7, .q), (8, .r), (9, .q), (10, .q), (11, .q), (12, .r), (13, .q), (14, .q), (15, .q), (16, .r), (17, .q), (18, .q), (19, .q), (20, .r), (21, .q), (22, .q), (23, .q), (24, .r), (25, .q), (26, .q), (27, .q), (28, .r), (4, .e [28, 24, 20, 16, 12, 8]), (29, .q), (30, .e []), (31, .q)] (by kernel_rfl) (by kernel_rfl) ?_ | refine draw (by kernel_rfl) (by kernel_rfl) ?_ | apply pz_e | apply pz_eg | apply py_e) | ((with_reducible apply pi_e); (· rfl); (· rfl)) | ((with_reducible refine piE_fr (bcopy_ok B) [1] ?_ ?_ ?_ ?_); (· kernel_rfl); (· exact ⟨by kernel_rfl, trivial⟩); (· kernel_rfl); intro xx hx; simp -implicitDefEqProofs only [fixL_eq, setAll_cons, setAll_nil, setAll_nil2, List.map_cons, List.map_nil, rn_cells, rn_ro, rn_any, rn_obj, boardL_map, mvL_map, psL_map, map_ints, List.set_cons_zero, List.set_cons_succ, List.length_cons, List.length_nil, List.drop_succ_cons, List.drop_zero, List.drop_nil, List.append_nil, List.nil_append, List.cons_append, rl_tuple, rl_int, rl_bool, rl_string, rl_ptr, rl_ptr0, rl_slice, rl_slice0, rl_agg, List.map_toArray, Array.map_empty, List.length_append, Nat.zero_add, Nat.reduceAdd, sig, Nat.reduceLT, Nat.reduceSub, ↓reduceIte, List.getElem?_cons_zero, List.getElem?_cons_succ, List.getElem?_nil, Nat.reduceAdd, Nat.add_zero, Nat.sub_self]) | ((with_reducible refine And.intro ?_ ?_); (· (simp -implicitDefEqProofs (disch := first | omega | assumption) only [chk_nil, chk_cons, pend_nil, pend_cons, obl_q, onQ_v, and_true, go_sem, ↓reduceIte, Nat.reduceEqDiff, Int.reduceEq, Nat.reduceAdd, Nat.reduceSub, List.length_nil, List.length_cons, List.nil_append, List.cons_append, Nat.zero_add, Nat.sub_zero]; done))) | with_reducible refine seq_k fun K hK => ?_ | (with_reducible refine hK _ _ ?_; clear hK) | ((with_reducible first | refine gd_dec ?_ ?_ | refine gd_ndec ?_ ?_ | refine qC_dec ?_ ?_ | refine qC_ndec ?_ ?_ | refine piC_dec ?_ ?_ | refine piC_ndec ?_ ?_ | refine zC_dec ?_ ?_ | refine zC_ndec ?_ ?_ | refine zD_dec ?_ ?_ | refine yC_dec ?_ ?_ | refine yC_ndec ?_ ?_ | refine if_dec ?_ ?_ | refine if_ndec ?_ ?_) <;> intro hh) | simp -implicitDefEqProofs (disch := first | omega | assumption) only [go_sem, ↓reduceIte, Nat.reduceEqDiff, Int.reduceEq, Nat.reduceAdd, Nat.reduceSub, Nat.reduceMul, Nat.mul_one, Nat.one_mul, List.length_nil, List.length_cons, List.nil_append, List.cons_append, List.length_append, List.set_cons_zero, List.set_cons_succ, Nat.zero_add, Nat.sub_zero, Option.isNone_none, Option.isNone_some, Int.toNat_natCast, Nat.add_sub_cancel_left, Bool.not_true, Bool.not_false, BitVec.reduceOfInt, Int.reduceToNat] | ((with_reducible first | refine gd_bool ?_ ?_ | refine if_bool ?_ ?_ | refine qC_bool ?_ ?_ | refine piC_bool ?_ ?_ | refine zC_bool ?_ ?_ | refine zD_bool ?_ ?_ | refine yC_bool ?_ ?_) <;> intro hh) | clear hK)
  exact ⟨(), trivial, trivial, rfl⟩
end Go.Tb
end
section
namespace Go.Tb
open Go Go.Proofs
variable {z : Nat × Nat}
set_option maxRecDepth 20000
theorem pCol_bd {p : Int} (h : 1 ≤ p ∧ p ≤ 12) : 1 ≤ pCol p ∧ pCol p ≤ 2 := by unfold pCol; repeat' split <;> omega
set_option maxHeartbeats 8000000 in
theorem update_ok (B : Brd) (M : Mv) (h1 : 0 ≤ M.s1 ∧ M.s1 ≤ 63) (h2 : 0 ≤ M.s2 ∧ M.s2 ≤ 63) (hq : ¬ M.promo = 0 → (1 ≤ M.promo ∧ M.promo ≤ 6) ∧ 1 ≤ pieceAt B M.s1) :
    FnM (Tz z) 50 [.pointer (some ⟨100, 0, none⟩), .pointer (some ⟨101, 0, none⟩)] [.cells (boardL B) 110, .cells (mvL M) 60] (fun _ : Unit => True) (fun _ => .tuple #[]) (fun _ => [.cells (boardL (updB B M)) 110, .cells (mvL M) 60]) := by
  refine ⟨bm_wv, bm_wl B M, fun _ _ o ho => by simp at ho, start [0, 1, 4, 5, 6, 8, 9, 10, 11, 12, 29, 30, 31, 32, 50, 68, 96, 99, 130, 150, 170, 190] Tryz.func50 rfl (by decide) rfl (by kernel_rfl) (by simp [Tryz.f50]) ?_⟩
  have hp0 := pieceAt_bd B M.s1
  have hq : ¬ M.promo = 0 → ((1 ≤ M.promo ∧ M.promo ≤ 6) ∧ 1 ≤ pieceAt B M.s1) ∧ (1 ≤ pCol (pieceAt B M.s1) ∧ pCol (pieceAt B M.s1) ≤ 2) := fun h => ⟨hq h, pCol_bd (by have := hq h; omega)⟩
  unfold updB
  generalize hpe : pieceAt B M.s1 = p at *
  simp only [Tryz.f50]
  repeat' (first | (have hq1 := hq (by assumption); clear hq) | (with_reducible first | refine seq_i (a := Code.seq (Code.region 12 _ _) _) [(0, .pointer (some ⟨100, 0, none⟩)), (1, .pointer (some ⟨101, 0, none⟩)), (4, .int .i8 p), (6, bv (sqB M.s2))] [.cells (boardL (updP (updA B M) M p)) 110, .cells (mvL M) 60] ?_ (fun K hJ => ?_) | refine seq_i (a := Code.seq (Code.region 18 _ _) _) [(0, .pointer (some ⟨100, 0, none⟩)), (1, .pointer (some ⟨101, 0, none⟩)), (4, .int .i8 p), (6, bv (sqB M.s2))] [.cells (boardL (updE (updP (updA B M) M p) M p)) 110, .cells (mvL M) 60] ?_ (fun K hJ => ?_) | refine seq_i (a := Code.block 2 _) [(0, .pointer (some ⟨100, 0, none⟩)), (1, .pointer (some ⟨101, 0, none⟩)), (4, .int .i8 p), (6, bv (sqB M.s2))] [.cells (boardL (updC (updE (updP (updA B M) M p) M p) M p)) 110, .cells (mvL M) 60] ?_ (fun K hJ => ?_)) | (with_reducible refine hJ _ _ ?_; clear hJ; refine VS.sub2 ?_ ?_) | (with_reducible first | refine draw4 (id := 20) [.q, .q, .q, .q, .r, .r, .q, .q, .q, .q, .q, .r, .q, .q, .q, .e []] [false, false, false, false, false, false, false, false, false, false, false, false, false, false, false, true] (by kernel_rfl) (by kernel_rfl) (by kernel_rfl) ?_ | refine draw4 (id := 21) [.q, .q, .q, .q, .r, .r, .q, .q, .q, .q, .q, .r, .q, .q, .q, .e []] [false, false, false, false, false, false, false, false, false, false, false, false, false, false, false, true] (by kernel_rfl) (by kernel_rfl) (by kernel_rfl) ?_ | refine draw4 (id := 23) [.q, .q, .q, .q, .r, .r, .q, .q, .r, .q, .q, .q, .e []] [false, false, false, false, false, false, false, false, false, false, false, false, true] (by kernel_rfl) (by kernel_rfl) (by kernel_rfl) ?_ | refine draw4 (id := 25) [.q, .q, .q, .q, .r, .r, .q, .q, .r, .q, .q, .q, .e []] [false, false, false, false, false, false, false, false, false, false, false, false, true] (by kernel_rfl) (by kernel_rfl) (by kernel_rfl) ?_ | refine draw4 (id := 27) [.q, .q, .q, .q, .r, .r, .q, .q, .r, .q, .q, .q, .e []] [false, false, false, false, false, false, false, false, false, false, false, false, true] (by kernel_rfl) (by kernel_rfl) (by kernel_rfl) ?_ | refine draw4 (id := 29) [.q, .q, .q, .q, .r, .r, .q, .q, .r, .q, .q, .q, .e []] [false, false, false, false, false, false, false, false, false, false, false, false, true] (by kernel_rfl) (by kernel_rfl) (by kernel_rfl) ?_ | refine draw (by kernel_rfl) (by kernel_rfl) ?_ | apply pz_e | apply pz_eg | apply py_e | refine loop (V := [0, 1, 4, 5, 6, 8, 9, 10, 11, 12, 29, 30, 31, 32, 50, 68, 96, 99, 130, 150, 170, 190]) (fun k : Nat => ([(0, .pointer (some ⟨100, 0, none⟩)), (1, .pointer (some ⟨101, 0, none⟩)), (4, .int .i8 p), (5, bv (sqB M.s1)), (6, bv (sqB M.s2)), (29, .slice (some ⟨12, z.1, none⟩) 12 12), (30, .int .i64 12), (31, .int .i64 k)], [.cells (boardL (mapTo (mvBB M.s1 M.s2) k B)) 110, .cells (mvL M) 60])) (fun k => k ≤ 12) (fun k => 12 - k) 0 (by kernel_rfl) ?_ ?_ (fun k hk => ?_)) | ((with_reducible refine call_ri (f := 48) ?_ ?_ ?_ ?_ ?_ ?_ ?_); rotate_left 3; (· first | omega | decide); (· first | rfl | simp; done); (· refine piece_ok _ ?_ <;> omega)) | ((with_reducible refine qG_ri (f := 48) ?_ ?_ ?_ ?_ ?_ ?_ ?_); rotate_left 3; (· first | omega | decide); (· first | rfl | simp; done); (· refine piece_ok _ ?_ <;> omega)) | ((with_reducible refine zG_ri (f := 48) ?_ ?_ ?_ ?_ ?_ ?_ ?_); rotate_left 3; (· first | omega | decide); (· first | rfl | simp; done); (· refine piece_ok _ ?_ <;> omega)) | (with_reducible first | refine call_p (bbSq_ok (by omega)) ?_ | refine qG_call (bbSq_ok (by omega)) ?_ | refine zG_call (bbSq_ok (by omega)) ?_ | refine yG_call (bbSq_ok (by omega)) ?_ | refine piG_call (bbSq_ok (by omega)) ?_) | ((with_reducible refine call_ri (f := 71) ?_ ?_ ?_ ?_ ?_ ?_ ?_); rotate_left 3; (· first | omega | decide); (· first | rfl | simp; done); (· refine bbFor_ok _ ?_ <;> omega)) | ((with_reducible refine qG_ri (f := 71) ?_ ?_ ?_ ?_ ?_ ?_ ?_); rotate_left 3; (· first | omega | decide); (· first | rfl | simp; done); (· refine bbFor_ok _ ?_ <;> omega)) | ((with_reducible refine zG_ri (f := 71) ?_ ?_ ?_ ?_ ?_ ?_ ?_); rotate_left 3; (· first | omega | decide); (· first | rfl | simp; done); (· refine bbFor_ok _ ?_ <;> omega)) | ((with_reducible refine call_wi (f := 74) ?_ ?_ ?_ ?_ ?_ ?_ ?_ ?_); rotate_left 4; (· first | omega | decide); (· first | rfl | simp; done); (· refine setBB_ok _ ?_ <;> omega)) | (with_reducible first | refine call_p (occ_ok (by omega)) ?_ | refine qG_call (occ_ok (by omega)) ?_ | refine zG_call (occ_ok (by omega)) ?_ | refine yG_call (occ_ok (by omega)) ?_ | refine piG_call (occ_ok (by omega)) ?_ | refine call_p (color_ok) ?_ | refine qG_call (color_ok) ?_ | refine zG_call (color_ok) ?_ | refine yG_call (color_ok) ?_ | refine piG_call (color_ok) ?_ | refine call_p (newPiece_ok (by omega) (by omega)) ?_ | refine qG_call (newPiece_ok (by omega) (by omega)) ?_ | refine zG_call (newPiece_ok (by omega) (by omega)) ?_ | refine yG_call (newPiece_ok (by omega) (by omega)) ?_ | refine piG_call (newPiece_ok (by omega) (by omega)) ?_) | ((with_reducible refine call_ri (f := 40) ?_ ?_ ?_ ?_ ?_ ?_ ?_); rotate_left 3; (· first | omega | decide); (· first | rfl | simp; done); (· refine hasTag_ok _ <;> omega)) | ((with_reducible refine qG_ri (f := 40) ?_ ?_ ?_ ?_ ?_ ?_ ?_); rotate_left 3; (· first | omega | decide); (· first | rfl | simp; done); (· refine hasTag_ok _ <;> omega)) | ((with_reducible refine zG_ri (f := 40) ?_ ?_ ?_ ?_ ?_ ?_ ?_); rotate_left 3; (· first | omega | decide); (· first | rfl | simp; done); (· refine hasTag_ok _ <;> omega)) | ((with_reducible refine call_fr (calcM_ok (updC (updE (updP (updA B M) M p) M p) M p) M) [0, 1] ?_ ?_ ?_ ?_); (· kernel_rfl); (· exact ⟨by kernel_rfl, by kernel_rfl, trivial⟩); (· kernel_rfl); intro xx hx; simp -implicitDefEqProofs only [fixL_eq, setAll_cons, setAll_nil, setAll_nil2, List.map_cons, List.map_nil, rn_cells, rn_ro, rn_any, rn_obj, boardL_map, mvL_map, psL_map, map_ints, List.set_cons_zero, List.set_cons_succ, List.length_cons, List.length_nil, List.drop_succ_cons, List.drop_zero, List.drop_nil, List.append_nil, List.nil_append, List.cons_append, rl_tuple, rl_int, rl_bool, rl_string, rl_ptr, rl_ptr0, rl_slice, rl_slice0, rl_agg, List.map_toArray, Array.map_empty, List.length_append, Nat.zero_add, Nat.reduceAdd, sig, Nat.reduceLT, Nat.reduceSub, ↓reduceIte, List.getElem?_cons_zero, List.getElem?_cons_succ, List.getElem?_nil, Nat.reduceAdd, Nat.add_zero, Nat.sub_self]) | with_reducible refine seq_k fun K hK => ?_ | (with_reducible refine hK _ _ ?_; clear hK) | ((with_reducible first | refine gd_dec ?_ ?_ | refine gd_ndec ?_ ?_ | refine qC_dec ?_ ?_ | refine qC_ndec ?_ ?_ | refine piC_dec ?_ ?_ | refine piC_ndec ?_ ?_ | refine zC_dec ?_ ?_ | refine zC_ndec ?_ ?_ | refine zD_dec ?_ ?_ | refine yC_dec ?_ ?_ | refine yC_ndec ?_ ?_ | refine if_dec ?_ ?_ | refine if_ndec ?_ ?_) <;> intro hh) | simp -implicitDefEqProofs (disch := first | omega | assumption) only [go_sem, ↓reduceIte, Nat.reduceEqDiff, Int.reduceEq, Nat.reduceAdd, Nat.reduceSub, Nat.reduceMul, Nat.mul_one, Nat.one_mul, List.length_nil, List.length_cons, List.nil_append, List.cons_append, List.length_append, List.set_cons_zero, List.set_cons_succ, Nat.zero_add, Nat.sub_zero, Option.isNone_none, Option.isNone_some, Int.toNat_natCast, Nat.add_sub_cancel_left, Bool.not_true, Bool.not_false, BitVec.reduceOfInt, Int.reduceToNat, hpe, mapTo_get, put_get] | ((with_reducible first | refine gd_bool ?_ ?_ | refine if_bool ?_ ?_ | refine qC_bool ?_ ?_ | refine piC_bool ?_ ?_ | refine zC_bool ?_ ?_ | refine zD_bool ?_ ?_ | refine yC_bool ?_ ?_) <;> intro hh) | clear hK)
  all_goals first
    | exact Nat.zero_le _
    | (exact VS.sub2 (by simp [Fr.sub, Fr.get]) rfl)
    | (simp [Fr.sub, Fr.get]; done)
    | (refine ⟨k + 1, by omega, by omega, VS.sub2 (by simp [Fr.sub, Fr.get]) ?_⟩; rw [← mapTo_put (mvBB M.s1 M.s2) B (by omega)]; simp [mvBB, put_put _ (show k < 12 by omega), *]; done)
    | rfl
    | (simp [updC, tagOn, *]; done)
    | (simp [updE, tagOn, *]; done)
    | (simp [updP, *]; done)
    | (obtain rfl : k = 12 := by omega
       simp [updP, updA, *]; done)
    | exact ⟨(), trivial, trivial, rfl⟩
    | skip
end Go.Tb
end
