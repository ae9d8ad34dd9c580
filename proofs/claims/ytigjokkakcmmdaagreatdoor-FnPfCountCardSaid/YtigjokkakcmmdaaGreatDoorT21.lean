/-
  A part of the proof (my own): of the texts that the claim's last text rests on: parts K2, K0, K3, K4.
-/
import Derived.Test.YtigjokkakcmmdaaGreatDoorT20
import Derived.Test.YtigjokkakcmmdaaGreatDoorT17
import Derived.Test.YtigjokkakcmmdaaGreatDoorT19
set_option linter.unusedSimpArgs false
set_option linter.unusedVariables false
section
namespace Go.Tb
open Go Go.Proofs
variable {z : Nat × Nat}
set_option maxRecDepth 20000
theorem contains_ok (l : List UInt8) (b : UInt8) (hl : l.length ≤ 1000) : FnP (Tz z) 102 [.string (byt l), .string (byt [b])] (.bool (decide (0 ≤ idxL l b))) := by
  refine ⟨by simp [Pl.str], Pl.bool, start [0, 1, 4] Tryz.func102 rfl (by decide) rfl (by kernel_rfl) (by simp [Tryz.f102]) ?_⟩
  simp only [Tryz.f102]
  repeat' (first | with_reducible refine call_p (index_ok l b hl) ?_ | with_reducible refine qG_call (index_ok l b hl) ?_ | with_reducible refine zG_call (index_ok l b hl) ?_ | with_reducible refine yG_call (index_ok l b hl) ?_ | with_reducible refine piG_call (index_ok l b hl) ?_ | with_reducible refine seq_k fun K hK => ?_ | (with_reducible refine hK _ _ ?_; clear hK) | with_reducible refine gd_dec (fun hh => ?_) (fun hh => ?_) | with_reducible refine gd_ndec (fun hh => ?_) (fun hh => ?_) | with_reducible refine qC_dec (fun hh => ?_) (fun hh => ?_) | with_reducible refine qC_ndec (fun hh => ?_) (fun hh => ?_) | with_reducible refine piC_dec (fun hh => ?_) (fun hh => ?_) | with_reducible refine piC_ndec (fun hh => ?_) (fun hh => ?_) | with_reducible refine zC_dec (fun hh => ?_) (fun hh => ?_) | with_reducible refine zC_ndec (fun hh => ?_) (fun hh => ?_) | with_reducible refine zD_dec (fun hh => ?_) (fun hh => ?_) | with_reducible refine yC_dec (fun hh => ?_) (fun hh => ?_) | with_reducible refine yC_ndec (fun hh => ?_) (fun hh => ?_) | with_reducible refine if_dec (fun hh => ?_) (fun hh => ?_) | with_reducible refine if_ndec (fun hh => ?_) (fun hh => ?_) | simp -implicitDefEqProofs (disch := first | omega | assumption) only [go_sem, ↓reduceIte, Nat.reduceEqDiff, Int.reduceEq, Nat.reduceAdd, Nat.reduceSub, Nat.reduceMul, Nat.mul_one, Nat.one_mul, List.length_nil, List.length_cons, List.nil_append, List.cons_append, List.length_append, List.set_cons_zero, List.set_cons_succ, Nat.zero_add, Nat.sub_zero, Option.isNone_none, Option.isNone_some, Int.toNat_natCast, Nat.add_sub_cancel_left, Bool.not_true, Bool.not_false, BitVec.reduceOfInt, Int.reduceToNat] | with_reducible refine gd_bool (fun hh => ?_) (fun hh => ?_) | with_reducible refine if_bool (fun hh => ?_) (fun hh => ?_) | with_reducible refine qC_bool (fun hh => ?_) (fun hh => ?_) | with_reducible refine piC_bool (fun hh => ?_) (fun hh => ?_) | with_reducible refine zC_bool (fun hh => ?_) (fun hh => ?_) | with_reducible refine zD_bool (fun hh => ?_) (fun hh => ?_) | with_reducible refine yC_bool (fun hh => ?_) (fun hh => ?_) | clear hK)
theorem idxL_bd (l : List UInt8) (b : UInt8) : idxL l b < l.length ∨ idxL l b = -1 := by
  rcases findI_bd (fun k => decide (bAt l k = b)) l.length with h | h
  · exact .inl h.2
  · right; unfold idxL findI; rw [h]; rfl
theorem idxL_ge (l : List UInt8) (b : UInt8) : -1 ≤ idxL l b := by
  unfold idxL findI; split <;> omega
def delL (l : List UInt8) (b : UInt8) : List UInt8 := l.filter fun x => !decide (x = b)
theorem bAt_get {l : List UInt8} {k : Nat} (h : k < l.length) : l[k]? = some (bAt l k) := by simp [bAt, List.getD_eq_getElem?_getD, h]
theorem idxL_at {l : List UInt8} {b : UInt8} (h : 0 ≤ idxL l b) : (idxL l b).toNat < l.length ∧ bAt l (idxL l b).toNat = b ∧ ∀ j, j < (idxL l b).toNat → bAt l j ≠ b := by
  unfold idxL findI at *
  split at h
  · rename_i i hi
    rw [Int.toNat_natCast]
    rw [List.find?_range_eq_some] at hi
    obtain ⟨h1, h2, h3⟩ := hi
    refine ⟨by simpa using h2, by simpa using h1, fun j hj => ?_⟩
    have := h3 j (by simpa using hj)
    simpa using this
  · omega
theorem idxL_no {l : List UInt8} {b : UInt8} (h : idxL l b < 0) : ∀ x ∈ l, x ≠ b := by
  intro x hx e
  obtain ⟨k, hk, he⟩ := List.getElem_of_mem hx
  unfold idxL findI at h
  split at h
  · omega
  · rename_i h0
    rw [List.find?_eq_none] at h0
    have := h0 k (List.mem_range.2 hk)
    simp [bAt, List.getD_eq_getElem?_getD, hk, he, e] at this
theorem del_none {l : List UInt8} {b : UInt8} (h : idxL l b < 0) : delL l b = l := by
  unfold delL
  rw [List.filter_eq_self]
  intro x hx
  simpa using idxL_no h x hx
theorem del_step {l : List UInt8} {b : UInt8} (h : 0 ≤ idxL l b) : delL l b = l.take (idxL l b).toNat ++ delL (l.drop ((idxL l b).toNat + 1)) b := by
  obtain ⟨h1, h2, h3⟩ := idxL_at h
  generalize (idxL l b).toNat = k at *
  unfold delL
  conv => lhs; rw [← List.take_append_drop k l]
  rw [List.filter_append]
  congr 1
  · rw [List.filter_eq_self]
    intro x hx
    obtain ⟨j, hj, he⟩ := List.getElem_of_mem hx
    have hj' : j < k := by rw [List.length_take] at hj; omega
    have := h3 j hj'
    rw [List.getElem_take] at he
    simp only [bAt, List.getD_eq_getElem?_getD, List.getElem?_eq_getElem (show j < l.length by omega), Option.getD_some, he] at this
    simpa using this
  · rw [List.drop_eq_getElem_cons h1, List.filter_cons_of_neg]
    have := bAt_get h1
    rw [List.getElem?_eq_getElem h1, Option.some.injEq] at this
    simp [this, h2]
theorem delL_len (l : List UInt8) (b : UInt8) : (delL l b).length ≤ l.length := List.length_filter_le _ _
def bCells (l : List UInt8) : List Value := l.map fun b => .int .u8 b.toNat
theorem bCells_pl (l : List UInt8) : ∀ v ∈ bCells l, Pl v := by
  intro v hv; obtain ⟨b, _, rfl⟩ := List.mem_map.1 hv; exact Pl.int
theorem bCells_len (l : List UInt8) : (bCells l).length = l.length := by simp [bCells]
theorem bCells_app (a b : List UInt8) : bCells (a ++ b) = bCells a ++ bCells b := by simp [bCells]
theorem bCells_one (l : List UInt8) : (bCells l).all one = true := by
  rw [List.all_eq_true]; intro v hv; obtain ⟨b, _, rfl⟩ := List.mem_map.1 hv; rfl
theorem byteCells_eq (l : List UInt8) : byteCells (byt l) = bCells l := rfl
theorem src_str {X : Cx} {L : List AO} {tx : Nat} {l : List UInt8} (ht : tStr X.P tx = true) : srcM X.P (X.pad ++ L) 1 tx (.string (byt l)) = some (l.length, bCells l) := by
  simp [srcM, ht, byteCells_eq, bs_size]
theorem numsOf_b (l : List UInt8) : numsOf (bCells l) = some (l.map fun b => (b.toNat : Int)) := by
  induction l with
  | nil => rfl
  | cons b l ih => show numsOf (.int .u8 b.toNat :: bCells l) = _; rw [numsOf, ih]; rfl
theorem strOf_b (l : List UInt8) : strOfNums (l.map fun b => (b.toNat : Int)) = byt l := by
  unfold strOfNums byt
  congr 2
  rw [List.map_map]
  conv => rhs; rw [← List.map_id l]
  refine List.map_congr_left fun b _ => ?_
  simp
theorem app_zero {X : Cx} {t tx e sz b n i : Nat} {x : Value} {zc con : List Value} {h : Hold} {L : List AO} {K : Value → List AO → Prop} (hsl : tSl X.P t = some (e, sz, b)) (hz : tZero X.P e = some zc) (hzl : zc.length = sz)
    (hsrc : srcM X.P (X.pad ++ L) sz tx x = some (0, [])) (hL : L[i]? = some (slB e con h)) (hok : slOk sz n con h) (hk : K (slH (100 + i) n h) L) : app2 X L [slH (100 + i) n h, x] [t, tx] K := by
  cases h with
  | none =>
    obtain ⟨rfl, rfl⟩ := hok
    exact app_nil hsl hz hzl hsrc rfl (by simp) (fun _ => hk) fun hp => absurd hp (by omega)
  | some p =>
    obtain ⟨tl, cap⟩ := p
    obtain ⟨o1, o2, o3, o4⟩ := hok
    refine app_own hsl hz hzl hsrc rfl (by simp) hL o1 o2 o3 (fun hr => ?_) fun hc => absurd o3 (by omega)
    have e1 : L.set i (.cells (con ++ [] ++ tl.drop ([] : List Value).length) e) = L := by
      apply List.ext_getElem?
      intro k
      rw [List.getElem?_set]
      split
      · rename_i e; subst e
        rw [if_pos (List.getElem?_eq_some_iff.1 hL).1, hL]
        simp [slB]
      · rfl
    rw [e1]; exact hk
theorem conv_hold {X : Cx} {L : List AO} {s t e i n : Nat} {l : List UInt8} {h : Hold} {T : TypeId} (hs : X.P.underlying s = some (.slice e)) (he : X.P.underlying e = some (.int .u8)) (ht : X.P.underlying t = some .string) (hL : L[i]? = some (slB T (bCells l) h)) (hok : slOk 1 n (bCells l) h) : convM X.P (X.pad ++ L) s t (slH (100 + i) n h) = some (.string (byt l)) := by
  cases h with
  | none =>
    have hl : l = [] := by
      cases l with
      | nil => rfl
      | cons a l => have := hok.2; cases this
    subst hl
    simp only [slH, convM, hs, he, ht]; rfl
  | some p =>
    obtain ⟨tl, cap⟩ := p
    have hn : (bCells l).length = n := by have := hok.1; omega
    simp only [slH, convM, hs, he, ht]
    rw [rdS_own (tl := tl) hL hn, Option.bind_some, numsOf_b, Option.map_some, strOf_b]
theorem conv_k0 {X : Cx} {all rest : List Oper} {fr : Fr} {d : Option Tmp} {L : List AO} {K : Fr → List AO → Prop} {P : Program} {M : List AO} {s t : TypeId} {v r : Value} (h : convM P M s t v = some r) (hk : wpOps X all rest (fr.put d r) L K) : onP X (keepL L (convM P M s t v)) all rest fr d K := by
  rw [h]; exact hk
theorem bCells_0 : bCells [] = [] := rfl
theorem take_len {l : List UInt8} {i : Nat} : (l.take i).length ≤ l.length := by rw [List.length_take]; omega
set_option maxHeartbeats 4000000 in
theorem replace_ok (l : List UInt8) (b : UInt8) (hl : l.length ≤ 1000) : FnP (Tz z) 70 [.string (byt l), .string (byt [b]), .string (byt [])] (.string (byt (delL l b))) := by
  refine ⟨by simp [Pl.str], Pl.str, start [0, 1, 2, 6, 7, 8, 9, 10, 13, 18, 19, 20, 23, 35, 49] Tryz.func70 rfl (by decide) rfl (by kernel_rfl) (by simp [Tryz.f70]) ?_⟩
  simp only [Tryz.f70]
  repeat' (first | ((with_reducible refine loop (c := Code.block 3 _) (V := [0, 1, 2, 6, 7, 8, 9, 10, 13, 18, 19, 20, 23, 35, 49]) (fun v : List UInt8 × List UInt8 × Hold => ([(0, .string (byt v.1)), (1, .string (byt [b])), (2, .string (byt [])), (7, slH 100 v.2.1.length v.2.2)], [slB 5 (bCells v.2.1) v.2.2])) (fun v => v.2.1 ++ delL v.1 b = delL l b ∧ v.2.1.length + v.1.length ≤ 1000 ∧ slOk 1 v.2.1.length (bCells v.2.1) v.2.2) (fun v => v.1.length) (l, [], none) (by kernel_rfl) ?_ ?_ (fun v hv => ?_)); (· exact ⟨rfl, by simpa using hl, ⟨rfl, rfl⟩⟩); (· exact VS.holex (L := []) (by simp) trivial (by simp [subW, Fr.get, slH, wf_nils, wf_str])); obtain ⟨r, o, h⟩ := v; obtain ⟨hv1, hv2, hv3⟩ := hv; simp only at hv1 hv2 hv3; have hi1 := idxL_bd r b; have hi2 := idxL_ge r b; have hi3 := take_len (l := r) (i := (idxL r b).toNat)) | ((with_reducible refine app_k ?_); refine app_zero (X := Tz z) (i := 0) (e := 5) (sz := 1) (b := 1) (h := some (tl, cap)) (con := bCells o ++ bCells (r.take (idxL r b).toNat)) (n := o.length + (r.take (idxL r b).toNat).length) (zc := [.int .u8 0]) (by kernel_rfl) (by kernel_rfl) rfl (src_str (l := []) (by kernel_rfl)) rfl hcap ?_) | ((with_reducible refine app_k ?_); refine app_zero (X := Tz z) (i := 1) (e := 5) (sz := 1) (b := 1) (h := some (tl, cap)) (con := bCells o ++ bCells (r.take (idxL r b).toNat)) (n := o.length + (r.take (idxL r b).toNat).length) (zc := [.int .u8 0]) (by kernel_rfl) (by kernel_rfl) rfl (src_str (l := []) (by kernel_rfl)) rfl hcap ?_) | (subst e0; (with_reducible refine app_k ?_); refine app_zero (X := Tz z) (i := 0) (e := 5) (sz := 1) (b := 1) (h := none) (con := bCells o) (n := o.length) (zc := [.int .u8 0]) (by kernel_rfl) (by kernel_rfl) rfl (src_str (l := []) (by kernel_rfl)) rfl hv3 ?_) | ((with_reducible refine app_k ?_); refine app_holdG (X := Tz z) (i := 0) (e := 5) (sz := 1) (b := 1) (h := h) (con := bCells o) (n := o.length) (zc := [.int .u8 0]) (m := (r.take (idxL r b).toNat).length) (news := bCells (r.take (idxL r b).toNat)) (by kernel_rfl) (by kernel_rfl) rfl (by simp [Pl.int]) (src_str (by kernel_rfl)) (bCells_one _) (by rw [bCells_len, Nat.mul_one]) rfl hv3 (by omega) (by omega) (fun e0 e1 => ?_) (fun tl cap hcap => ⟨?_, ?_⟩)) | ((with_reducible refine app_k ?_); refine app_holdG (X := Tz z) (i := 0) (e := 5) (sz := 1) (b := 1) (h := h) (con := bCells o) (n := o.length) (zc := [.int .u8 0]) (m := (r).length) (news := bCells (r)) (by kernel_rfl) (by kernel_rfl) rfl (by simp [Pl.int]) (src_str (by kernel_rfl)) (bCells_one _) (by rw [bCells_len, Nat.mul_one]) rfl hv3 (by omega) (by omega) (fun e0 e1 => ?_) (fun tl cap hcap => ⟨?_, ?_⟩)) | ((with_reducible refine conv_k0 (r := .string (byt (o ++ r))) ?_ ?_); (· first | exact conv_hold (X := Tz z) (i := 0) (h := some (tl, cap)) (e := 5) (l := o ++ r) (T := 5) (n := o.length + r.length) (by kernel_rfl) (by kernel_rfl) (by kernel_rfl) (by rw [bCells_app]; rfl) (by rw [bCells_app]; exact hcap) | exact conv_hold (X := Tz z) (i := 1) (h := some (tl, cap)) (e := 5) (l := o ++ r) (T := 5) (n := o.length + r.length) (by kernel_rfl) (by kernel_rfl) (by kernel_rfl) (by rw [bCells_app]; rfl) (by rw [bCells_app]; exact hcap) | (subst e0; exact conv_hold (X := Tz z) (i := 0) (h := none) (e := 5) (l := o ++ r) (T := 5) (n := 0) (by kernel_rfl) (by kernel_rfl) (by kernel_rfl) rfl ⟨rfl, by rw [bCells_app, hv3.2, List.eq_nil_of_length_eq_zero e1]; rfl⟩))) | with_reducible refine call_p (index_ok _ b (by omega)) ?_ | with_reducible refine qG_call (index_ok _ b (by omega)) ?_ | with_reducible refine zG_call (index_ok _ b (by omega)) ?_ | with_reducible refine yG_call (index_ok _ b (by omega)) ?_ | with_reducible refine piG_call (index_ok _ b (by omega)) ?_ | with_reducible refine seq_k fun K hK => ?_ | (with_reducible refine hK _ _ ?_; clear hK) | with_reducible refine gd_dec (fun hh => ?_) (fun hh => ?_) | with_reducible refine gd_ndec (fun hh => ?_) (fun hh => ?_) | with_reducible refine qC_dec (fun hh => ?_) (fun hh => ?_) | with_reducible refine qC_ndec (fun hh => ?_) (fun hh => ?_) | with_reducible refine piC_dec (fun hh => ?_) (fun hh => ?_) | with_reducible refine piC_ndec (fun hh => ?_) (fun hh => ?_) | with_reducible refine zC_dec (fun hh => ?_) (fun hh => ?_) | with_reducible refine zC_ndec (fun hh => ?_) (fun hh => ?_) | with_reducible refine zD_dec (fun hh => ?_) (fun hh => ?_) | with_reducible refine yC_dec (fun hh => ?_) (fun hh => ?_) | with_reducible refine yC_ndec (fun hh => ?_) (fun hh => ?_) | with_reducible refine if_dec (fun hh => ?_) (fun hh => ?_) | with_reducible refine if_ndec (fun hh => ?_) (fun hh => ?_) | simp -implicitDefEqProofs (disch := first | omega | assumption) only [go_sem, ↓reduceIte, Nat.reduceEqDiff, Int.reduceEq, Nat.reduceAdd, Nat.reduceSub, Nat.reduceMul, Nat.mul_one, Nat.one_mul, List.length_nil, List.length_cons, List.nil_append, List.cons_append, List.length_append, List.set_cons_zero, List.set_cons_succ, Nat.zero_add, Nat.sub_zero, Option.isNone_none, Option.isNone_some, Int.toNat_natCast, Nat.add_sub_cancel_left, Bool.not_true, Bool.not_false, BitVec.reduceOfInt, Int.reduceToNat, bs_size, bs_toList, Int.natCast_one, decide_false, decide_true, sl9lo, sl9hi, Option.map_none] | with_reducible refine gd_bool (fun hh => ?_) (fun hh => ?_) | with_reducible refine if_bool (fun hh => ?_) (fun hh => ?_) | with_reducible refine qC_bool (fun hh => ?_) (fun hh => ?_) | with_reducible refine piC_bool (fun hh => ?_) (fun hh => ?_) | with_reducible refine zC_bool (fun hh => ?_) (fun hh => ?_) | with_reducible refine zD_bool (fun hh => ?_) (fun hh => ?_) | with_reducible refine yC_bool (fun hh => ?_) (fun hh => ?_) | clear hK)
  all_goals first
    | (refine congrArg (fun x => Value.string (byt x)) ?_
       rw [← hv1, del_none (by omega)]; done)
    | (have e := del_step (l := r) (b := b) (by omega)
       have e2 : r.take (idxL r b).toNat = [] := List.eq_nil_of_length_eq_zero (by assumption)
       rw [e2, List.nil_append] at e
       refine ⟨(r.drop (idxL r b + 1).toNat, o, none), ⟨?_, ?_, hv3⟩, ?_, VS.sub2 ?_ rfl⟩
       · rw [show (idxL r b + 1).toNat = (idxL r b).toNat + 1 by omega, ← e]; exact hv1
       · simp only [List.length_drop]; omega
       · simp only [List.length_drop]; omega
       · simp [Fr.sub, Fr.get]; done)
    | (have e := del_step (l := r) (b := b) (by omega)
       have hcap' : slOk 1 (o ++ r.take (idxL r b).toNat).length (bCells (o ++ r.take (idxL r b).toNat)) (some (tl, cap)) := by
        rw [bCells_app, List.length_append]; exact hcap
       have hg : (o ++ r.take (idxL r b).toNat) ++ delL (r.drop (idxL r b + 1).toNat) b = delL l b := by
        rw [show (idxL r b + 1).toNat = (idxL r b).toNat + 1 by omega, List.append_assoc, ← e]; exact hv1
       have hg2 : (o ++ r.take (idxL r b).toNat).length + (r.drop (idxL r b + 1).toNat).length ≤ 1000 := by
        rw [List.length_append, List.length_take, List.length_drop]; omega
       first
         | (refine ⟨(r.drop (idxL r b + 1).toNat, o ++ r.take (idxL r b).toNat, some (tl, cap)), ⟨hg, hg2, hcap'⟩, ?_, VS.mvx 0 0 (by decide) (by simp) (by simp) (by simp) (by simp) ?_ (by simp [eqX, slB]) ?_ ?_⟩
            · simp only [List.length_drop]; omega
            · simp [slB, bCells_app]
            · exact ⟨slB_C (bCells_pl _) hcap', trivial⟩
            · simp only [List.length_append]; simp [mvF, Fr.get, slH, mvS, wf_int, wf_bool, wf_sl, wf_pt, wf_nils, wf_str]; done)
         | (refine ⟨(r.drop (idxL r b + 1).toNat, o ++ r.take (idxL r b).toNat, some (tl, cap)), ⟨hg, hg2, hcap'⟩, ?_, VS.mvx 0 1 (by decide) (by simp) (by simp) (by simp) (by simp) ?_ (by simp [eqX, slB]) ?_ ?_⟩
            · simp only [List.length_drop]; omega
            · simp [slB, bCells_app]
            · exact ⟨slB_C (bCells_pl _) hcap', trivial⟩
            · simp only [List.length_append]; simp [mvF, Fr.get, slH, mvS, wf_int, wf_bool, wf_sl, wf_pt, wf_nils, wf_str]; done))
end Go.Tb
end
section
namespace Go.Tb
open Go Go.Proofs
variable {z : Nat × Nat}
theorem FnP.of_below {X : Cx} {f : FuncId} {vs : List Value} {v : Value} (ha : ∀ u ∈ vs, Pl u) (hr : Pl v) (hok : callOk X.P f = true) (h : ∀ w, Calls X.P f vs.toArray w fun e w' => e = .returned v ∧ Go.RowKit.Below w.heap.size w w') : FnP X f vs v := by
  refine ⟨ha, hr, hok, fun ρ w hs _ => ?_⟩
  have e : vs.map (rl ρ) = vs := by
    conv => rhs; rw [← List.map_id vs]
    exact List.map_congr_left fun u hu => ha u hu ρ
  rw [e]
  refine (h w).mono ?_
  rintro e w' ⟨rfl, hb⟩
  refine ⟨ρ, v, [], by rw [hr ρ], rfl, hr.wf _, ?_, ?_⟩
  · refine ⟨hs.ngl, hs.glob, hs.inj, fun i hi => Nat.lt_of_lt_of_le (hs.lt i hi) hb.size, fun i c T h => ?_, fun i b c h => ?_, fun i o h => ?_⟩
    · rw [hb.block _ (hs.lt i (List.getElem?_eq_some_iff.1 h).1)]; exact hs.cells i c T h
    · refine ⟨fun j v hv => ?_, (hs.ro i b c h).2⟩
      rw [World.cell?_of_block (w := w) (a := ⟨ρ i, b + j, none⟩) (hb.block _ (hs.lt i (List.getElem?_eq_some_iff.1 h).1))]
      exact (hs.ro i b c h).1 j v hv
    · rw [hb.block _ (hs.lt i (List.getElem?_eq_some_iff.1 h).1)]; exact hs.obj i o h
  · exact ⟨hb.os, hb.tape, hb.output, hb.size, Nat.le_refl _, fun _ _ => rfl, fun i o h h1 _ => by have := (List.getElem?_eq_some_iff.1 h1).1; omega, fun j hj _ => hb.block j hj, fun _ _ h _ => h⟩
theorem upper_ok (l : List UInt8) (hl : l.length ≤ 1000) (ha : ∀ b ∈ l, b.toNat < 128) : FnP (Tz z) 101 [.string (byt l)] (.string (byt (Lib.toUpperA l))) :=
  FnP.of_below (by simp [Pl.str]) Pl.str (by kernel_rfl) fun w => Tryz.strings_ToUpper_ascii (byt l) w (by show l.length ≤ _; omega) fun j b hj => ha b (List.mem_of_getElem? hj)
theorem up_k : Lib.toUpperA [107] = [75] := by decide
theorem up_q : Lib.toUpperA [113] = [81] := by decide
end Go.Tb
end
section
namespace Go.Tb
open Go Go.Proofs
variable {z : Nat × Nat}
set_option maxRecDepth 20000
def ccB (c side : Int) : UInt8 := if c = 1 then (if side = 2 then 81 else 75) else (if side = 2 then 113 else 107)
def canB (l : List UInt8) (c side : Int) : Bool := decide (0 ≤ idxL l (ccB c side))
theorem upk_ok : FnP (Tz z) 101 [.string ⟨#[107]⟩] (.string (byt [75])) := by
  have h := upper_ok (z := z) [107] (by simp) (by simp)
  rw [up_k] at h; exact h
theorem upq_ok : FnP (Tz z) 101 [.string ⟨#[113]⟩] (.string (byt [81])) := by
  have h := upper_ok (z := z) [113] (by simp) (by simp)
  rw [up_q] at h; exact h
set_option maxHeartbeats 4000000 in
theorem can_ok (l : List UInt8) (c side : Int) (hl : l.length ≤ 1000) : FnP (Tz z) 89 [.string (byt l), .int .i8 c, .int .i64 side] (.bool (canB l c side)) := by
  refine ⟨by simp [Pl.str, Pl.int], Pl.bool, start [0, 1, 2, 6, 7, 9, 11] Tryz.func89 rfl (by decide) rfl (by kernel_rfl) (by simp [Tryz.f89]) ?_⟩
  simp only [Tryz.f89]
  repeat' (first | with_reducible refine call_p (upk_ok) ?_ | with_reducible refine qG_call (upk_ok) ?_ | with_reducible refine zG_call (upk_ok) ?_ | with_reducible refine yG_call (upk_ok) ?_ | with_reducible refine piG_call (upk_ok) ?_ | with_reducible refine call_p (upq_ok) ?_ | with_reducible refine qG_call (upq_ok) ?_ | with_reducible refine zG_call (upq_ok) ?_ | with_reducible refine yG_call (upq_ok) ?_ | with_reducible refine piG_call (upq_ok) ?_ | with_reducible refine call_p (contains_ok l _ hl) ?_ | with_reducible refine qG_call (contains_ok l _ hl) ?_ | with_reducible refine zG_call (contains_ok l _ hl) ?_ | with_reducible refine yG_call (contains_ok l _ hl) ?_ | with_reducible refine piG_call (contains_ok l _ hl) ?_ | with_reducible refine seq_k fun K hK => ?_ | (with_reducible refine hK _ _ ?_; clear hK) | with_reducible refine gd_dec (fun hh => ?_) (fun hh => ?_) | with_reducible refine gd_ndec (fun hh => ?_) (fun hh => ?_) | with_reducible refine qC_dec (fun hh => ?_) (fun hh => ?_) | with_reducible refine qC_ndec (fun hh => ?_) (fun hh => ?_) | with_reducible refine piC_dec (fun hh => ?_) (fun hh => ?_) | with_reducible refine piC_ndec (fun hh => ?_) (fun hh => ?_) | with_reducible refine zC_dec (fun hh => ?_) (fun hh => ?_) | with_reducible refine zC_ndec (fun hh => ?_) (fun hh => ?_) | with_reducible refine zD_dec (fun hh => ?_) (fun hh => ?_) | with_reducible refine yC_dec (fun hh => ?_) (fun hh => ?_) | with_reducible refine yC_ndec (fun hh => ?_) (fun hh => ?_) | with_reducible refine if_dec (fun hh => ?_) (fun hh => ?_) | with_reducible refine if_ndec (fun hh => ?_) (fun hh => ?_) | simp -implicitDefEqProofs (disch := first | omega | assumption) only [go_sem, ↓reduceIte, Nat.reduceEqDiff, Int.reduceEq, Nat.reduceAdd, Nat.reduceSub, Nat.reduceMul, Nat.mul_one, Nat.one_mul, List.length_nil, List.length_cons, List.nil_append, List.cons_append, List.length_append, List.set_cons_zero, List.set_cons_succ, Nat.zero_add, Nat.sub_zero, Option.isNone_none, Option.isNone_some, Int.toNat_natCast, Nat.add_sub_cancel_left, Bool.not_true, Bool.not_false, BitVec.reduceOfInt, Int.reduceToNat] | with_reducible refine gd_bool (fun hh => ?_) (fun hh => ?_) | with_reducible refine if_bool (fun hh => ?_) (fun hh => ?_) | with_reducible refine qC_bool (fun hh => ?_) (fun hh => ?_) | with_reducible refine piC_bool (fun hh => ?_) (fun hh => ?_) | with_reducible refine zC_bool (fun hh => ?_) (fun hh => ?_) | with_reducible refine zD_bool (fun hh => ?_) (fun hh => ?_) | with_reducible refine yC_bool (fun hh => ?_) (fun hh => ?_) | clear hK)
  all_goals (refine congrArg Value.bool ?_; simp [canB, ccB, *]; done)
def crA (a : Bool) (l : List UInt8) (b : UInt8) : List UInt8 := if a = true then delL l b else l
theorem crA_len {a : Bool} {l : List UInt8} {b : UInt8} (h : l.length ≤ 1000) : (crA a l b).length ≤ 1000 := by
  unfold crA; split
  · have := delL_len l b; omega
  · exact h
def hitA (p k s1 s2 q : Int) : Bool := decide (p = k) || decide (s1 = q) || decide (s2 = q)
def cr1 (l : List UInt8) (B : Brd) (M : Mv) : List UInt8 := crA (hitA (pieceAt B M.s1) 1 M.s1 M.s2 7) l 75
def cr2 (l : List UInt8) (B : Brd) (M : Mv) : List UInt8 := crA (hitA (pieceAt B M.s1) 1 M.s1 M.s2 0) (cr1 l B M) 81
def cr3 (l : List UInt8) (B : Brd) (M : Mv) : List UInt8 := crA (hitA (pieceAt B M.s1) 7 M.s1 M.s2 63) (cr2 l B M) 107
def cr4 (l : List UInt8) (B : Brd) (M : Mv) : List UInt8 := crA (hitA (pieceAt B M.s1) 7 M.s1 M.s2 56) (cr3 l B M) 113
def crUp (l : List UInt8) (B : Brd) (M : Mv) : List UInt8 := if cr4 l B M = [] then [45] else cr4 l B M
theorem crA_y {p k s1 s2 q : Int} {l : List UInt8} {b : UInt8} (h : p = k ∨ s1 = q ∨ s2 = q) : crA (hitA p k s1 s2 q) l b = delL l b := by
  unfold crA; rw [if_pos (by unfold hitA; rcases h with h | h | h <;> simp [h])]
theorem crA_n {p k s1 s2 q : Int} {l : List UInt8} {b : UInt8} (h : ¬ (p = k ∨ s1 = q ∨ s2 = q)) : crA (hitA p k s1 s2 q) l b = l := by
  unfold crA; rw [if_neg (by unfold hitA; simp; omega)]
theorem cr1_y {l : List UInt8} {B : Brd} {M : Mv} (h : pieceAt B M.s1 = 1 ∨ M.s1 = 7 ∨ M.s2 = 7) : cr1 l B M = delL l 75 := crA_y h
theorem cr1_n {l : List UInt8} {B : Brd} {M : Mv} (h : ¬ (pieceAt B M.s1 = 1 ∨ M.s1 = 7 ∨ M.s2 = 7)) : cr1 l B M = l := crA_n h
theorem cr1_len {l : List UInt8} {B : Brd} {M : Mv} (h : l.length ≤ 1000) : (cr1 l B M).length ≤ 1000 := crA_len h
theorem cr2_y {l : List UInt8} {B : Brd} {M : Mv} (h : pieceAt B M.s1 = 1 ∨ M.s1 = 0 ∨ M.s2 = 0) : cr2 l B M = delL (cr1 l B M) 81 := crA_y h
theorem cr2_n {l : List UInt8} {B : Brd} {M : Mv} (h : ¬ (pieceAt B M.s1 = 1 ∨ M.s1 = 0 ∨ M.s2 = 0)) : cr2 l B M = (cr1 l B M) := crA_n h
theorem cr2_len {l : List UInt8} {B : Brd} {M : Mv} (h : (cr1 l B M).length ≤ 1000) : (cr2 l B M).length ≤ 1000 := crA_len h
theorem cr3_y {l : List UInt8} {B : Brd} {M : Mv} (h : pieceAt B M.s1 = 7 ∨ M.s1 = 63 ∨ M.s2 = 63) : cr3 l B M = delL (cr2 l B M) 107 := crA_y h
theorem cr3_n {l : List UInt8} {B : Brd} {M : Mv} (h : ¬ (pieceAt B M.s1 = 7 ∨ M.s1 = 63 ∨ M.s2 = 63)) : cr3 l B M = (cr2 l B M) := crA_n h
theorem cr3_len {l : List UInt8} {B : Brd} {M : Mv} (h : (cr2 l B M).length ≤ 1000) : (cr3 l B M).length ≤ 1000 := crA_len h
theorem cr4_y {l : List UInt8} {B : Brd} {M : Mv} (h : pieceAt B M.s1 = 7 ∨ M.s1 = 56 ∨ M.s2 = 56) : cr4 l B M = delL (cr3 l B M) 113 := crA_y h
theorem cr4_n {l : List UInt8} {B : Brd} {M : Mv} (h : ¬ (pieceAt B M.s1 = 7 ∨ M.s1 = 56 ∨ M.s2 = 56)) : cr4 l B M = (cr3 l B M) := crA_n h
theorem cr4_len {l : List UInt8} {B : Brd} {M : Mv} (h : (cr3 l B M).length ≤ 1000) : (cr4 l B M).length ≤ 1000 := crA_len h
theorem lit0 : (⟨#[]⟩ : ByteArray) = byt [] := rfl
theorem litK : (⟨#[75]⟩ : ByteArray) = byt [75] := rfl
theorem litQ : (⟨#[81]⟩ : ByteArray) = byt [81] := rfl
theorem litk : (⟨#[107]⟩ : ByteArray) = byt [107] := rfl
theorem litq : (⟨#[113]⟩ : ByteArray) = byt [113] := rfl
theorem litd : (⟨#[45]⟩ : ByteArray) = byt [45] := rfl
theorem beq_nil (l : List UInt8) : (l == []) = decide (l = []) := by cases l <;> rfl
abbrev pmbL (D : Pd) (M : Mv) (B : Brd) (n cap : Nat) (vc : List Value) : List AO := [.cells (psL 102 (.slice (some ⟨103, 0, none⟩) n cap) D) 82, .cells (mvL M) 60, .cells (boardL B) 110, .cells vc 60]
theorem pmb_wl (D : Pd) (M : Mv) (B : Brd) (n cap : Nat) {vc : List Value} (hv : ∀ v ∈ vc, Pl v) : ∀ o ∈ pmbL D M B n cap vc, o.wf (100 + 4) := by
  intro o ho
  simp only [List.mem_cons, List.not_mem_nil, or_false] at ho
  rcases ho with rfl | rfl | rfl | rfl
  · exact psL_wf (by decide) (wf_sl (by decide))
  · exact fun u hu => (mvL_pl M u hu).wf _
  · exact fun u hu => (boardL_pl B u hu).wf _
  · exact fun u hu => (hv u hu).wf _
theorem two_wv (n : Nat) (h : 2 ≤ n) : ∀ u ∈ [Value.pointer (some ⟨100, 0, none⟩), Value.pointer (some ⟨101, 0, none⟩)], WF (100 + n) u := by
  intro u hu
  simp only [List.mem_cons, List.not_mem_nil, or_false] at hu
  rcases hu with rfl | rfl <;> exact wf_pt (by omega)
attribute [local irreducible] byt delL pieceAt cr1 cr2 cr3 cr4 in
set_option maxHeartbeats 8000000 in
theorem upRights_ok (D : Pd) (M : Mv) (B : Brd) (n cap : Nat) (vc : List Value) (hv : ∀ v ∈ vc, Pl v) (l : List UInt8) (hl : l.length ≤ 1000) (hcr : D.cr = byt l) (h1 : 0 ≤ M.s1 ∧ M.s1 ≤ 63) :
    FnR (Tz z) 47 [.pointer (some ⟨100, 0, none⟩), .pointer (some ⟨101, 0, none⟩)] (pmbL D M B n cap vc) (.string (byt (crUp l B M))) := by
  have g1 := cr1_len (B := B) (M := M) hl
  have g2 := cr2_len (B := B) (M := M) g1
  have g3 := cr3_len (B := B) (M := M) g2
  refine ⟨two_wv _ (by simp), pmb_wl D M B n cap hv, Pl.str.wf _, start [0, 1, 4, 5, 6, 35, 53, 71, 89, 93] Tryz.func47 rfl (by decide) rfl (by kernel_rfl) (by simp [Tryz.f47]) ?_⟩
  simp only [Tryz.f47]
  unfold pmbL
  repeat' (first | (with_reducible refine seq_i (a := Code.seq (Code.region 3 _ _) _) [(0, .pointer (some ⟨100, 0, none⟩)), (1, .pointer (some ⟨101, 0, none⟩)), (6, .int .i8 (pieceAt B M.s1)), (5, .string (byt (cr1 l B M)))] (pmbL D M B n cap vc) ?_ (fun K hJ => ?_)) | (with_reducible refine seq_i (a := Code.seq (Code.region 5 _ _) _) [(0, .pointer (some ⟨100, 0, none⟩)), (1, .pointer (some ⟨101, 0, none⟩)), (6, .int .i8 (pieceAt B M.s1)), (5, .string (byt (cr2 l B M)))] (pmbL D M B n cap vc) ?_ (fun K hJ => ?_)) | (with_reducible refine seq_i (a := Code.seq (Code.region 7 _ _) _) [(0, .pointer (some ⟨100, 0, none⟩)), (1, .pointer (some ⟨101, 0, none⟩)), (6, .int .i8 (pieceAt B M.s1)), (5, .string (byt (cr3 l B M)))] (pmbL D M B n cap vc) ?_ (fun K hJ => ?_)) | (with_reducible refine seq_i (a := Code.seq (Code.region 9 _ _) _) [(5, .string (byt (cr4 l B M)))] (pmbL D M B n cap vc) ?_ (fun K hJ => ?_)) | (with_reducible refine hJ _ _ ?_; clear hJ) | with_reducible refine draw (by kernel_rfl) (by kernel_rfl) ?_ | ((with_reducible refine call_ri (f := 48) ?_ ?_ ?_ ?_ ?_ ?_ ?_); rotate_left 3; (· first | omega | decide); (· first | rfl | simp; done); (· refine (piece_ok B h1) <;> omega)) | ((with_reducible refine qG_ri (f := 48) ?_ ?_ ?_ ?_ ?_ ?_ ?_); rotate_left 3; (· first | omega | decide); (· first | rfl | simp; done); (· refine (piece_ok B h1) <;> omega)) | ((with_reducible refine zG_ri (f := 48) ?_ ?_ ?_ ?_ ?_ ?_ ?_); rotate_left 3; (· first | omega | decide); (· first | rfl | simp; done); (· refine (piece_ok B h1) <;> omega)) | with_reducible refine call_p (replace_ok _ _ (by omega)) ?_ | with_reducible refine qG_call (replace_ok _ _ (by omega)) ?_ | with_reducible refine zG_call (replace_ok _ _ (by omega)) ?_ | with_reducible refine yG_call (replace_ok _ _ (by omega)) ?_ | with_reducible refine piG_call (replace_ok _ _ (by omega)) ?_ | with_reducible refine seq_k fun K hK => ?_ | (with_reducible refine hK _ _ ?_; clear hK) | with_reducible refine gd_dec (fun hh => ?_) (fun hh => ?_) | with_reducible refine gd_ndec (fun hh => ?_) (fun hh => ?_) | with_reducible refine qC_dec (fun hh => ?_) (fun hh => ?_) | with_reducible refine qC_ndec (fun hh => ?_) (fun hh => ?_) | with_reducible refine piC_dec (fun hh => ?_) (fun hh => ?_) | with_reducible refine piC_ndec (fun hh => ?_) (fun hh => ?_) | with_reducible refine zC_dec (fun hh => ?_) (fun hh => ?_) | with_reducible refine zC_ndec (fun hh => ?_) (fun hh => ?_) | with_reducible refine zD_dec (fun hh => ?_) (fun hh => ?_) | with_reducible refine yC_dec (fun hh => ?_) (fun hh => ?_) | with_reducible refine yC_ndec (fun hh => ?_) (fun hh => ?_) | with_reducible refine if_dec (fun hh => ?_) (fun hh => ?_) | with_reducible refine if_ndec (fun hh => ?_) (fun hh => ?_) | simp -implicitDefEqProofs (disch := first | omega | assumption) only [go_sem, ↓reduceIte, Nat.reduceEqDiff, Int.reduceEq, Nat.reduceAdd, Nat.reduceSub, Nat.reduceMul, Nat.mul_one, Nat.one_mul, List.length_nil, List.length_cons, List.nil_append, List.cons_append, List.length_append, List.set_cons_zero, List.set_cons_succ, Nat.zero_add, Nat.sub_zero, Option.isNone_none, Option.isNone_some, Int.toNat_natCast, Nat.add_sub_cancel_left, Bool.not_true, Bool.not_false, BitVec.reduceOfInt, Int.reduceToNat, hcr, lit0, litK, litQ, litk, litq, litd, bs_toList, beq_nil] | with_reducible refine gd_bool (fun hh => ?_) (fun hh => ?_) | with_reducible refine if_bool (fun hh => ?_) (fun hh => ?_) | with_reducible refine qC_bool (fun hh => ?_) (fun hh => ?_) | with_reducible refine piC_bool (fun hh => ?_) (fun hh => ?_) | with_reducible refine zC_bool (fun hh => ?_) (fun hh => ?_) | with_reducible refine zD_bool (fun hh => ?_) (fun hh => ?_) | with_reducible refine yC_bool (fun hh => ?_) (fun hh => ?_) | clear hK)
  all_goals first
    | (refine ⟨?_, trivial⟩
       rw [show crUp l B M = _ from if_pos (by assumption)]; done)
    | (refine ⟨?_, trivial⟩
       rw [show crUp l B M = _ from if_neg (by assumption)]; done)
    | (have e := cr1_y (l := l) (B := B) (M := M) (by omega)
       refine VS.sub2 ?_ rfl
       simp [Fr.sub, Fr.get, e]; done)
    | (have e := cr1_n (l := l) (B := B) (M := M) (by omega)
       refine VS.sub2 ?_ rfl
       simp [Fr.sub, Fr.get, e]; done)
    | (have e := cr2_y (l := l) (B := B) (M := M) (by omega)
       refine VS.sub2 ?_ rfl
       simp [Fr.sub, Fr.get, e]; done)
    | (have e := cr2_n (l := l) (B := B) (M := M) (by omega)
       refine VS.sub2 ?_ rfl
       simp [Fr.sub, Fr.get, e]; done)
    | (have e := cr3_y (l := l) (B := B) (M := M) (by omega)
       refine VS.sub2 ?_ rfl
       simp [Fr.sub, Fr.get, e]; done)
    | (have e := cr3_n (l := l) (B := B) (M := M) (by omega)
       refine VS.sub2 ?_ rfl
       simp [Fr.sub, Fr.get, e]; done)
    | (have e := cr4_y (l := l) (B := B) (M := M) (by omega)
       refine VS.sub2 ?_ rfl
       simp [Fr.sub, Fr.get, e]; done)
    | (have e := cr4_n (l := l) (B := B) (M := M) (by omega)
       refine VS.sub2 ?_ rfl
       simp [Fr.sub, Fr.get, e]; done)
theorem decT {p : Prop} {_ : Decidable p} (h : p) : decide p = true := decide_eq_true h
theorem decF {p : Prop} {_ : Decidable p} (h : ¬ p) : decide p = false := decide_eq_false h
def epW (D : Pd) (M : Mv) : Bool := decide (D.turn = 1) && !decide (sqB M.s1 &&& 71776119061217280#64 = 0#64) && !decide (sqB M.s2 &&& 1095216660480#64 = 0#64)
def epBl (D : Pd) (M : Mv) : Bool := decide (D.turn = 2) && !decide (sqB M.s1 &&& 65280#64 = 0#64) && !decide (sqB M.s2 &&& 4278190080#64 = 0#64)
def epUp (D : Pd) (M : Mv) (B : Brd) : Int := if pTyp (pieceAt B M.s1) = 6 then (if epW D M = true then M.s2 - 8 else if epBl D M = true then M.s2 + 8 else -1) else -1
attribute [local irreducible] pieceAt pTyp sqB in
set_option maxHeartbeats 8000000 in
theorem upEp_ok (D : Pd) (M : Mv) (B : Brd) (n cap : Nat) (vc : List Value) (hv : ∀ v ∈ vc, Pl v) (h1 : 0 ≤ M.s1 ∧ M.s1 ≤ 63) (h2 : 0 ≤ M.s2 ∧ M.s2 ≤ 63) :
    FnR (Tz z) 51 [.pointer (some ⟨100, 0, none⟩), .pointer (some ⟨101, 0, none⟩)] (pmbL D M B n cap vc) (.int .i8 (epUp D M B)) := by
  refine ⟨two_wv _ (by simp), pmb_wl D M B n cap hv, Pl.int.wf _, start [0, 1, 4, 5, 17, 40, 68] Tryz.func51 rfl (by decide) rfl (by kernel_rfl) (by simp [Tryz.f51]) ?_⟩
  simp only [Tryz.f51]
  unfold pmbL
  repeat' (first | with_reducible refine draw (by kernel_rfl) (by kernel_rfl) ?_ | ((with_reducible refine call_ri (f := 48) ?_ ?_ ?_ ?_ ?_ ?_ ?_); rotate_left 3; (· first | omega | decide); (· first | rfl | simp; done); (· refine (piece_ok B h1) <;> omega)) | ((with_reducible refine qG_ri (f := 48) ?_ ?_ ?_ ?_ ?_ ?_ ?_); rotate_left 3; (· first | omega | decide); (· first | rfl | simp; done); (· refine (piece_ok B h1) <;> omega)) | ((with_reducible refine zG_ri (f := 48) ?_ ?_ ?_ ?_ ?_ ?_ ?_); rotate_left 3; (· first | omega | decide); (· first | rfl | simp; done); (· refine (piece_ok B h1) <;> omega)) | with_reducible refine call_p (type_ok) ?_ | with_reducible refine qG_call (type_ok) ?_ | with_reducible refine zG_call (type_ok) ?_ | with_reducible refine yG_call (type_ok) ?_ | with_reducible refine piG_call (type_ok) ?_ | with_reducible refine call_p (bbSq_ok h1) ?_ | with_reducible refine qG_call (bbSq_ok h1) ?_ | with_reducible refine zG_call (bbSq_ok h1) ?_ | with_reducible refine yG_call (bbSq_ok h1) ?_ | with_reducible refine piG_call (bbSq_ok h1) ?_ | with_reducible refine call_p (bbSq_ok h2) ?_ | with_reducible refine qG_call (bbSq_ok h2) ?_ | with_reducible refine zG_call (bbSq_ok h2) ?_ | with_reducible refine yG_call (bbSq_ok h2) ?_ | with_reducible refine piG_call (bbSq_ok h2) ?_ | with_reducible refine seq_k fun K hK => ?_ | (with_reducible refine hK _ _ ?_; clear hK) | with_reducible refine gd_dec (fun hh => ?_) (fun hh => ?_) | with_reducible refine gd_ndec (fun hh => ?_) (fun hh => ?_) | with_reducible refine qC_dec (fun hh => ?_) (fun hh => ?_) | with_reducible refine qC_ndec (fun hh => ?_) (fun hh => ?_) | with_reducible refine piC_dec (fun hh => ?_) (fun hh => ?_) | with_reducible refine piC_ndec (fun hh => ?_) (fun hh => ?_) | with_reducible refine zC_dec (fun hh => ?_) (fun hh => ?_) | with_reducible refine zC_ndec (fun hh => ?_) (fun hh => ?_) | with_reducible refine zD_dec (fun hh => ?_) (fun hh => ?_) | with_reducible refine yC_dec (fun hh => ?_) (fun hh => ?_) | with_reducible refine yC_ndec (fun hh => ?_) (fun hh => ?_) | with_reducible refine if_dec (fun hh => ?_) (fun hh => ?_) | with_reducible refine if_ndec (fun hh => ?_) (fun hh => ?_) | simp -implicitDefEqProofs (disch := first | omega | assumption) only [go_sem, ↓reduceIte, Nat.reduceEqDiff, Int.reduceEq, Nat.reduceAdd, Nat.reduceSub, Nat.reduceMul, Nat.mul_one, Nat.one_mul, List.length_nil, List.length_cons, List.nil_append, List.cons_append, List.length_append, List.set_cons_zero, List.set_cons_succ, Nat.zero_add, Nat.sub_zero, Option.isNone_none, Option.isNone_some, Int.toNat_natCast, Nat.add_sub_cancel_left, Bool.not_true, Bool.not_false, BitVec.reduceOfInt, Int.reduceToNat, decT, decF, pickV_T, pickV_F] | with_reducible refine gd_bool (fun hh => ?_) (fun hh => ?_) | with_reducible refine if_bool (fun hh => ?_) (fun hh => ?_) | with_reducible refine qC_bool (fun hh => ?_) (fun hh => ?_) | with_reducible refine piC_bool (fun hh => ?_) (fun hh => ?_) | with_reducible refine zC_bool (fun hh => ?_) (fun hh => ?_) | with_reducible refine zD_bool (fun hh => ?_) (fun hh => ?_) | with_reducible refine yC_bool (fun hh => ?_) (fun hh => ?_) | clear hK)
  all_goals (refine ⟨?_, by first | rfl | trivial⟩; refine congrArg (Value.int .i8) ?_; simp [epUp, epW, epBl, *]; done)
end Go.Tb
end
section
namespace Go.Tb
open Go Go.Proofs
variable {z : Nat × Nat}
set_option maxRecDepth 20000
def halfUp (D : Pd) (M : Mv) (B : Brd) : Int := if pTyp (pieceAt B M.s1) = 6 ∨ tagOn M 4 = true then 0 else D.half + 1
def mcUp (D : Pd) : Int := if D.turn = 2 then D.mc + 1 else D.mc
def updD (l : List UInt8) (D : Pd) (M : Mv) (B : Brd) : Pd := { cr := byt (crUp l B M), half := halfUp D M B, mc := mcUp D, turn := cOther D.turn, ep := epUp D M B, chk := tagOn M 16 }
theorem plK {c : List Value} {T : TypeId} {σ : Nat → Nat} (h : ∀ v ∈ c, Pl v) : rnO σ (.cells c T) = .cells c T := (plO (n := 0) σ h).1
theorem rl_id4 {n : Nat} {k : Nat} (h : k < 104) : sig [0, 1, 2, 3] n k = k := by
  by_cases h1 : k < 100
  · simp [sig, h1]
  · have : k = 100 ∨ k = 101 ∨ k = 102 ∨ k = 103 := by omega
    rcases this with rfl | rfl | rfl | rfl <;> rfl
theorem fit4 {D : Pd} {M : Mv} {B : Brd} {n cap : Nat} {vc : List Value} (hv : ∀ v ∈ vc, Pl v) {G : List AO} : fitL (sig [0, 1, 2, 3] (pmbL D M B n cap vc ++ G).length) (pmbL D M B n cap vc ++ G) [0, 1, 2, 3] (pmbL D M B n cap vc) := by
  refine ⟨?_, ?_, ?_, ?_, trivial⟩
  · show some _ = some _
    simp [rnO, psL, sig]
  · rw [plK (mvL_pl M)]; rfl
  · rw [plK (boardL_pl B)]; rfl
  · rw [plK hv]; rfl
attribute [local irreducible] byt crUp epUp pieceAt updB in
set_option maxHeartbeats 8000000 in
theorem Update_ok (D : Pd) (M : Mv) (B : Brd) (n cap : Nat) (vc : List Value) (hv : ∀ v ∈ vc, Pl v) (l : List UInt8) (hl : l.length ≤ 1000) (hcr : D.cr = byt l) (h1 : 0 ≤ M.s1 ∧ M.s1 ≤ 63) (h2 : 0 ≤ M.s2 ∧ M.s2 ≤ 63) (hq : ¬ M.promo = 0 → (1 ≤ M.promo ∧ M.promo ≤ 6) ∧ 1 ≤ pieceAt B M.s1)
    (hh : 0 ≤ D.half ∧ D.half ≤ 1000000) (hm : 0 ≤ D.mc ∧ D.mc ≤ 1000000) :
    FnM (Tz z) 25 [.pointer (some ⟨100, 0, none⟩), .pointer (some ⟨101, 0, none⟩)] (pmbL D M B n cap vc) (fun _ : Unit => True) (fun _ => .pointer (some ⟨105, 0, none⟩)) (fun _ => pmbL D M B n cap vc ++ [.cells (boardL (updB B M)) 110, .cells (psL 104 nilS (updD l D M B)) 82]) := by
  refine ⟨two_wv _ (by simp), pmb_wl D M B n cap hv, fun _ _ o ho => ?_, start [0, 1, 4, 5, 6, 7, 8, 9, 18, 22, 67] Tryz.func25 rfl (by decide) rfl (by kernel_rfl) (by simp [Tryz.f25]) ?_⟩
  · simp at ho; rcases ho with rfl | rfl <;> rfl
  simp only [Tryz.f25]
  unfold pmbL
  repeat' (first | (with_reducible refine seq_i (a := Code.seq (Code.region 2 _ _) _) [(0, .pointer (some ⟨100, 0, none⟩)), (1, .pointer (some ⟨101, 0, none⟩)), (5, .int .i64 (mcUp D))] (pmbL D M B n cap vc) ?_ (fun K hJ => ?_)) | (with_reducible refine seq_i (a := Code.seq (Code.region 9 _ _) _) [(0, .pointer (some ⟨100, 0, none⟩)), (1, .pointer (some ⟨101, 0, none⟩)), (5, .int .i64 (mcUp D)), (6, .string (byt (crUp l B M))), (8, .int .i64 (halfUp D M B))] (pmbL D M B n cap vc) ?_ (fun K hJ => ?_)) | (with_reducible refine hJ _ _ ?_; clear hJ) | with_reducible refine draw (by kernel_rfl) (by kernel_rfl) ?_ | ((with_reducible refine call_ri (f := 48) ?_ ?_ ?_ ?_ ?_ ?_ ?_); rotate_left 3; (· first | omega | decide); (· first | rfl | simp; done); (· refine (piece_ok B h1) <;> omega)) | ((with_reducible refine qG_ri (f := 48) ?_ ?_ ?_ ?_ ?_ ?_ ?_); rotate_left 3; (· first | omega | decide); (· first | rfl | simp; done); (· refine (piece_ok B h1) <;> omega)) | ((with_reducible refine zG_ri (f := 48) ?_ ?_ ?_ ?_ ?_ ?_ ?_); rotate_left 3; (· first | omega | decide); (· first | rfl | simp; done); (· refine (piece_ok B h1) <;> omega)) | ((with_reducible refine call_ri (f := 40) ?_ ?_ ?_ ?_ ?_ ?_ ?_); rotate_left 3; (· first | omega | decide); (· first | rfl | simp; done); (· refine (hasTag_ok M) <;> omega)) | ((with_reducible refine qG_ri (f := 40) ?_ ?_ ?_ ?_ ?_ ?_ ?_); rotate_left 3; (· first | omega | decide); (· first | rfl | simp; done); (· refine (hasTag_ok M) <;> omega)) | ((with_reducible refine zG_ri (f := 40) ?_ ?_ ?_ ?_ ?_ ?_ ?_); rotate_left 3; (· first | omega | decide); (· first | rfl | simp; done); (· refine (hasTag_ok M) <;> omega)) | with_reducible refine call_p (type_ok) ?_ | with_reducible refine qG_call (type_ok) ?_ | with_reducible refine zG_call (type_ok) ?_ | with_reducible refine yG_call (type_ok) ?_ | with_reducible refine piG_call (type_ok) ?_ | with_reducible refine call_p (other_ok) ?_ | with_reducible refine qG_call (other_ok) ?_ | with_reducible refine zG_call (other_ok) ?_ | with_reducible refine yG_call (other_ok) ?_ | with_reducible refine piG_call (other_ok) ?_ | ((with_reducible refine call_rd (upRights_ok D M B n cap vc hv l hl hcr h1) [0, 1, 2, 3] ?_ ?_ ?_ ?_); (· kernel_rfl); (· first | exact fit4 hv (G := []) | exact fit4 hv (G := [.cells (boardL (updB B M)) 110])); (· first | rfl | (simp [sig]; done)); simp only [rl_string, rl_int]) | ((with_reducible refine call_rd (upEp_ok D M B n cap vc hv h1 h2) [0, 1, 2, 3] ?_ ?_ ?_ ?_); (· kernel_rfl); (· first | exact fit4 hv (G := []) | exact fit4 hv (G := [.cells (boardL (updB B M)) 110])); (· first | rfl | (simp [sig]; done)); simp only [rl_string, rl_int]) | ((with_reducible refine call_fr (bcopy_ok B) [2] ?_ ?_ ?_ ?_); (· kernel_rfl); (· exact ⟨by kernel_rfl, trivial⟩); (· kernel_rfl); intro xx hx; simp -implicitDefEqProofs only [fixL_eq, setAll_cons, setAll_nil, setAll_nil2, List.map_cons, List.map_nil, rn_cells, rn_ro, rn_any, rn_obj, boardL_map, mvL_map, psL_map, map_ints, List.set_cons_zero, List.set_cons_succ, List.length_cons, List.length_nil, List.drop_succ_cons, List.drop_zero, List.drop_nil, List.append_nil, List.nil_append, List.cons_append, rl_tuple, rl_int, rl_bool, rl_string, rl_ptr, rl_ptr0, rl_slice, rl_slice0, rl_agg, List.map_toArray, Array.map_empty, List.length_append, Nat.zero_add, Nat.reduceAdd, sig, Nat.reduceLT, Nat.reduceSub, ↓reduceIte, List.getElem?_cons_zero, List.getElem?_cons_succ, List.getElem?_nil, Nat.reduceAdd, Nat.add_zero, Nat.sub_self]) | ((with_reducible refine call_fr (update_ok B M h1 h2 hq) [4, 1] ?_ ?_ ?_ ?_); (· kernel_rfl); (· exact ⟨by kernel_rfl, by kernel_rfl, trivial⟩); (· kernel_rfl); intro xx hx; simp -implicitDefEqProofs only [fixL_eq, setAll_cons, setAll_nil, setAll_nil2, List.map_cons, List.map_nil, rn_cells, rn_ro, rn_any, rn_obj, boardL_map, mvL_map, psL_map, map_ints, List.set_cons_zero, List.set_cons_succ, List.length_cons, List.length_nil, List.drop_succ_cons, List.drop_zero, List.drop_nil, List.append_nil, List.nil_append, List.cons_append, rl_tuple, rl_int, rl_bool, rl_string, rl_ptr, rl_ptr0, rl_slice, rl_slice0, rl_agg, List.map_toArray, Array.map_empty, List.length_append, Nat.zero_add, Nat.reduceAdd, sig, Nat.reduceLT, Nat.reduceSub, ↓reduceIte, List.getElem?_cons_zero, List.getElem?_cons_succ, List.getElem?_nil, Nat.reduceAdd, Nat.add_zero, Nat.sub_self]) | with_reducible refine seq_k fun K hK => ?_ | (with_reducible refine hK _ _ ?_; clear hK) | with_reducible refine gd_dec (fun hh => ?_) (fun hh => ?_) | with_reducible refine gd_ndec (fun hh => ?_) (fun hh => ?_) | with_reducible refine qC_dec (fun hh => ?_) (fun hh => ?_) | with_reducible refine qC_ndec (fun hh => ?_) (fun hh => ?_) | with_reducible refine piC_dec (fun hh => ?_) (fun hh => ?_) | with_reducible refine piC_ndec (fun hh => ?_) (fun hh => ?_) | with_reducible refine zC_dec (fun hh => ?_) (fun hh => ?_) | with_reducible refine zC_ndec (fun hh => ?_) (fun hh => ?_) | with_reducible refine zD_dec (fun hh => ?_) (fun hh => ?_) | with_reducible refine yC_dec (fun hh => ?_) (fun hh => ?_) | with_reducible refine yC_ndec (fun hh => ?_) (fun hh => ?_) | with_reducible refine if_dec (fun hh => ?_) (fun hh => ?_) | with_reducible refine if_ndec (fun hh => ?_) (fun hh => ?_) | simp -implicitDefEqProofs (disch := first | omega | assumption) only [go_sem, ↓reduceIte, Nat.reduceEqDiff, Int.reduceEq, Nat.reduceAdd, Nat.reduceSub, Nat.reduceMul, Nat.mul_one, Nat.one_mul, List.length_nil, List.length_cons, List.nil_append, List.cons_append, List.length_append, List.set_cons_zero, List.set_cons_succ, Nat.zero_add, Nat.sub_zero, Option.isNone_none, Option.isNone_some, Int.toNat_natCast, Nat.add_sub_cancel_left, Bool.not_true, Bool.not_false, BitVec.reduceOfInt, Int.reduceToNat] | with_reducible refine gd_bool (fun hh => ?_) (fun hh => ?_) | with_reducible refine if_bool (fun hh => ?_) (fun hh => ?_) | with_reducible refine qC_bool (fun hh => ?_) (fun hh => ?_) | with_reducible refine piC_bool (fun hh => ?_) (fun hh => ?_) | with_reducible refine zC_bool (fun hh => ?_) (fun hh => ?_) | with_reducible refine zD_bool (fun hh => ?_) (fun hh => ?_) | with_reducible refine yC_bool (fun hh => ?_) (fun hh => ?_) | clear hK)
  all_goals first
    | exact ⟨(), trivial, trivial, rfl⟩
    | (have e : mcUp D = D.mc + 1 := if_pos (by assumption)
       refine VS.sub2 ?_ rfl
       simp [Fr.sub, Fr.get, e]; done)
    | (have e : mcUp D = D.mc := if_neg (by assumption)
       refine VS.sub2 ?_ rfl
       simp [Fr.sub, Fr.get, e]; done)
    | (have e : halfUp D M B = 0 := if_pos (by first | (left; assumption) | (right; unfold tagOn; simp [*]; done))
       refine VS.sub2 ?_ rfl
       simp [Fr.sub, Fr.get, e]; done)
    | (have e : halfUp D M B = D.half + 1 := if_neg (by unfold tagOn; simp [*])
       refine VS.sub2 ?_ rfl
       simp [Fr.sub, Fr.get, e]; done)
end Go.Tb
end
