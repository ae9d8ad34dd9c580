/-
  A part of the proof (my own): of the texts that the claim's last text rests on: parts I3, I4, I5, C5.
-/
import Derived.Test.YtigjokkakcmmdaaGreatDoorT15
set_option linter.unusedSimpArgs false
set_option linter.unusedVariables false
section
namespace Go.Tb
open Go Go.Proofs
variable {z : Nat × Nat}
set_option maxRecDepth 20000
theorem src_tl {X : Cx} {L : List AO} {j m k sz tx : Nat} {news tl : List Value} {T : TypeId} (h : L[j]? = some (.cells (news ++ tl) T)) (hs : isSl X.P tx = true) (hm : news.length = m * sz) : srcM X.P (X.pad ++ L) sz tx (.slice (some ⟨100 + j, 0, none⟩) m k) = some (m, news) := by
  unfold srcM
  simp only [hs, if_true]
  rw [rdS_own h hm]; rfl
theorem src_hold {X : Cx} {L : List AO} {j m sz tx : Nat} {con : List Value} {T : TypeId} {h : Hold} (hL : L[j]? = some (slB T con h)) (hs : isSl X.P tx = true) (hok : slOk sz m con h) : srcM X.P (X.pad ++ L) sz tx (slH (100 + j) m h) = some (m, con) := by
  cases h with
  | none => obtain ⟨rfl, rfl⟩ := hok; exact src_nil hs
  | some p => exact src_tl hL hs hok.1
theorem app_holdG {X : Cx} {t tx e sz b n m i : Nat} {x : Value} {zc con news : List Value} {h : Hold} {L : List AO} {K : Value → List AO → Prop} (hsl : tSl X.P t = some (e, sz, b)) (hz : tZero X.P e = some zc) (hzl : zc.length = sz) (hzp : ∀ v ∈ zc, Pl v)
    (hsrc : srcM X.P (X.pad ++ L) sz tx x = some (m, news)) (h1 : news.all one = true) (hn : news.length = m * sz) (hL : L[i]? = some (slB e con h)) (hok : slOk sz n con h) (hb1 : (n + m) * b ≤ 140737488355328) (hb2 : n + m ≤ 9223372036854775807)
    (hk0 : h = none → m = 0 → K (.slice none 0 0) L)
    (hk : ∀ tl cap, slOk sz (n + m) (con ++ news) (some (tl, cap)) → K (.slice (some ⟨100 + i, 0, none⟩) (n + m) cap) (L.set i (.cells (con ++ news ++ tl) e)) ∧ K (.slice (some ⟨100 + L.length, 0, none⟩) (n + m) cap) (L ++ [.cells (con ++ news ++ tl) e])) :
    app2 X L [slH (100 + i) n h, x] [t, tx] K := by
  rcases Nat.eq_zero_or_pos m with hm | hm
  · subst hm
    have hnil : news = [] := List.eq_nil_of_length_eq_zero (by omega)
    subst hnil
    cases h with
    | none =>
      obtain ⟨rfl, rfl⟩ := hok
      refine app_nil hsl hz hzl hsrc h1 hn (fun _ => hk0 rfl rfl) fun hp => absurd hp (by omega)
    | some p =>
      obtain ⟨tl, cap⟩ := p
      obtain ⟨o1, o2, o3, o4⟩ := hok
      refine app_own hsl hz hzl hsrc h1 hn hL o1 o2 o3 (fun hr => ?_) fun hc => absurd o3 (by omega)
      exact (hk tl cap ⟨by rw [List.append_nil, Nat.add_zero]; exact o1, by rw [List.append_nil]; exact o2, by omega, o4⟩).1
  · exact app_hold hsl hz hzl hzp hsrc h1 hn hm hL hok hb1 hb2 hk
theorem msL_one' (l : List M3) : (msL l).all one = true := by
  rw [List.all_eq_true]
  intro v hv
  simp only [msL, mB, List.mem_flatMap, List.mem_cons, List.not_mem_nil, or_false] at hv
  obtain ⟨m, _, rfl | rfl | rfl⟩ := hv <;> rfl
theorem msL_set {l : List M3} {k : Nat} {m : M3} (h : k < l.length) : msL (l.set k m) = msL (l.take k) ++ (mB m ++ msL (l.drop (k + 1))) := by
  have hk : k < (l.set k m).length := by simpa using h
  rw [msL_split hk]
  have e1 : (l.set k m).take k = l.take k := by rw [List.take_set_of_le (Nat.le_refl k)]
  have e2 : (l.set k m).drop (k + 1) = l.drop (k + 1) := by rw [List.drop_set_of_lt (by omega)]
  have e3 : mAt (l.set k m) k = m := by simp [mAt, List.getD_eq_getElem?_getD, h]
  rw [e1, e2, e3]
theorem spl_mid (a b b' c : List Value) (h : b'.length = b.length) : spl (a ++ (b ++ c)) a.length b' = a ++ (b' ++ c) := by
  rw [spl_eq (by simp; omega), List.take_left', ← List.drop_drop, List.drop_left', h, List.drop_left', List.append_assoc]
  all_goals rfl
theorem spl_ms {l : List M3} {tl : List Value} {k : Nat} {m : M3} (h : k < l.length) : spl (msL l ++ tl) (k * 3) (mB m) = msL (l.set k m) ++ tl := by
  have hl : (msL (l.take k)).length = k * 3 := by rw [msL_len, List.length_take]; omega
  rw [msL_set h]
  conv => lhs; rw [msL_split h]
  rw [List.append_assoc, List.append_assoc, ← hl, spl_mid _ _ _ _ (by simp [mB])]
  simp only [List.append_assoc]
theorem wr_ms {l : List M3} {tl : List Value} {T : TypeId} {L : List AO} {i k : Nat} {m : M3} (h : k < l.length) : wrC (some (.cells (msL l ++ tl) T)) L i 3 (k * 3) (mB m) = some (L.set i (.cells (msL (l.set k m) ++ tl) T)) := by
  rw [wrC_in (s := 3) rfl rfl (by simp [msL_len]; omega), spl_ms h]
theorem wr_ms2 {l : List M3} {tl : List Value} {T : TypeId} {L : List AO} {i k j : Nat} {m m' : M3} (h : k < l.length) : wrC (some (.cells (msL (l.set j m') ++ tl) T)) L i 3 (k * 3) (mB m) = some (L.set i (.cells (msL ((l.set j m').set k m) ++ tl) T)) := wr_ms (by simpa using h)
theorem toNat_pred {n : Nat} : (((n + 1 : Nat) : Int) - 1).toNat = n := by omega
def befM (a b : M3) : Bool := befB a.1 a.2.1 a.2.2 b.1 b.2.1 b.2.2
theorem before_okM (a b : M3) : FnP (Tz z) 81 [.agg (mB a).toArray, .agg (mB b).toArray] (.bool (befM a b)) := before_ok _ _ _ _ _ _
def swpL (l : List M3) (k : Nat) : List M3 := (l.set (k + 1) (mAt l k)).set k (mAt l (k + 1))
def insK : List M3 → Nat → List M3
  | l, 0 => l
  | l, k + 1 => if befM (mAt l (k + 1)) (mAt l k) = true then insK (swpL l k) k else l
def ordK (l : List M3) : Nat → List M3
  | 0 => l
  | i + 1 => insK (ordK l i) (i + 1)
def ordL (l : List M3) : List M3 := ordK l (l.length - 1)
theorem swpL_len (l : List M3) (k : Nat) : (swpL l k).length = l.length := by simp [swpL]
theorem insK_len : ∀ (k : Nat) (l : List M3), (insK l k).length = l.length
  | 0, _ => rfl
  | k + 1, l => by
    simp only [insK]; split
    · rw [insK_len k, swpL_len]
    · rfl
theorem ordK_len (l : List M3) : ∀ i, (ordK l i).length = l.length
  | 0 => rfl
  | i + 1 => by rw [ordK, insK_len, ordK_len l i]
theorem ordL_len (l : List M3) : (ordL l).length = l.length := ordK_len l _
theorem slOk_len {sz n : Nat} {con con' : List Value} {p : List Value × Nat} (h : slOk sz n con (some p)) (hl : con'.length = con.length) : slOk sz n con' (some p) :=
  ⟨by rw [hl]; exact h.1, by rw [List.length_append, hl, ← List.length_append]; exact h.2.1, h.2.2⟩
theorem insK_yes {l : List M3} {k : Nat} (h : befM (mAt l (k + 1)) (mAt l k) = true) : insK l (k + 1) = insK ((l.set (k + 1) (mAt l k)).set k (mAt l (k + 1))) k := by simp only [insK]; rw [if_pos h]; rfl
theorem insK_no {l : List M3} {k : Nat} (h : befM (mAt l (k + 1)) (mAt l k) = false) : insK l (k + 1) = l := by simp only [insK]; rw [if_neg (by simp [h])]
attribute [local irreducible] befM in
set_option maxHeartbeats 4000000 in
theorem ordered_ok (l : List M3) (h0 : Hold) (hl : l.length ≤ 100000) (hk0 : slOk 3 l.length (msL l) h0) : FnM (Tz z) 55 [slH 100 l.length h0] [slB 38 (msL l) h0] (fun p : List Value × Nat => slOk 3 l.length (msL (ordL l)) (some p)) (fun p => slH 101 l.length (some p)) (fun p => [slB 38 (msL l) h0, .cells (msL (ordL l) ++ p.1) 38]) := by
  refine ⟨?_, ?_, ?_, CallM.shiftX (start [0, 2, 3, 4, 5, 12, 29] Tryz.func55 rfl (by decide) rfl (by kernel_rfl) (by simp [Tryz.f55]) ?_)⟩
  · intro u hu
    simp only [List.mem_cons, List.not_mem_nil, or_false] at hu; subst hu
    cases h0 with
    | none => exact wf_nils
    | some p => exact wf_sl (by simp)
  · intro o ho
    simp only [List.mem_cons, List.not_mem_nil, or_false] at ho; subst ho
    exact (slB_C (σ := fun i => i) (msL_pl _) hk0).2
  · rintro p hp o ho
    simp at ho; subst ho; rfl
  simp only [Tryz.f55]
  repeat' (first | with_reducible refine seq_y (a := Code.region 1 _ _) (fun p : List Value × Nat => ([(3, .slice (some ⟨101, 0, none⟩) l.length p.2)], [slB 38 (msL l) h0, .cells (msL l ++ p.1) 38])) (fun p => slOk 3 l.length (msL l) (some p)) (fun p hp => ?_) (fun K hJ => ?_) | ((with_reducible refine app_k ?_); refine app_holdG (X := Tz z) (i := 1) (e := 38) (sz := 3) (b := 24) (m := l.length) (h := some ([], 0)) (con := []) (n := 0) (zc := [.int .i64 0, .int .i64 0, .int .i64 0]) (news := msL l) (by kernel_rfl) (by kernel_rfl) rfl (by simp [Pl.int]) (src_hold (j := 0) (T := 38) rfl (by kernel_rfl) hk0) (msL_one' _) (msL_len _) rfl ⟨rfl, rfl, Nat.le_refl 0, by simp⟩ (by omega) (by omega) (fun h => by cases h) (fun tl cap hcap => ⟨?_, ?_⟩)) | with_reducible refine loop (c := Code.seq (Code.seq (Code.region 3 _ _) _) _) (V := [0, 2, 3, 4, 5, 12, 29]) (fun j : Nat => ([(3, .slice (some ⟨101, 0, none⟩) l.length p.2), (4, .int .i64 ((j : Int) + 1))], [slB 38 (msL l) h0, .cells (msL (ordK l j) ++ p.1) 38])) (fun j => j = 0 ∨ j + 1 ≤ l.length) (fun j => l.length - j) 0 (by kernel_rfl) (.inl rfl) ?_ (fun j hj => ?_) | ((with_reducible refine loop (c := Code.seq (Code.seq (Code.region 6 _ _) _) _) (V := [0, 2, 3, 4, 5, 12, 29]) (fun v : Nat × List M3 => ([(3, .slice (some ⟨101, 0, none⟩) l.length p.2), (4, .int .i64 ((j : Int) + 1)), (5, .int .i64 v.1)], [slB 38 (msL l) h0, .cells (msL v.2 ++ p.1) 38])) (fun v => insK v.2 v.1 = ordK l (j + 1) ∧ v.2.length = l.length ∧ v.1 ≤ j + 1) (fun v => v.1) (j + 1, ordK l j) (by kernel_rfl) ⟨rfl, ordK_len l j, Nat.le_refl _⟩ ?_ ?_); rotate_left; intro v hv; obtain ⟨k, l1⟩ := v; obtain ⟨hv1, hv2, hv3⟩ := hv; simp only at hv1 hv2 hv3; rcases k with _ | k) | (with_reducible refine hJ _ _ ?_; clear hJ) | (with_reducible first | refine draw4 (id := 8) [.q, .q, .q, .q, .q, .q, .q, .q, .q, .r, .q, .q, .q, .r, .q, .e [], .q, .e []] [false, false, false, false, false, false, false, false, false, false, false, false, false, false, false, true, false, true] (by kernel_rfl) (by kernel_rfl) (by kernel_rfl) ?_ | refine draw (by kernel_rfl) (by kernel_rfl) ?_ | apply pz_e | apply pz_eg | apply py_e | refine call_p (before_okM _ _) ?_ | refine qG_call (before_okM _ _) ?_ | refine zG_call (before_okM _ _) ?_ | refine yG_call (before_okM _ _) ?_ | refine piG_call (before_okM _ _) ?_ | refine seq_k fun K hK => ?_) | (with_reducible refine hK _ _ ?_; clear hK) | ((with_reducible first | refine gd_dec ?_ ?_ | refine gd_ndec ?_ ?_ | refine qC_dec ?_ ?_ | refine qC_ndec ?_ ?_ | refine piC_dec ?_ ?_ | refine piC_ndec ?_ ?_ | refine zC_dec ?_ ?_ | refine zC_ndec ?_ ?_ | refine zD_dec ?_ ?_ | refine yC_dec ?_ ?_ | refine yC_ndec ?_ ?_ | refine if_dec ?_ ?_ | refine if_ndec ?_ ?_) <;> intro hh) | simp -implicitDefEqProofs (disch := first | omega | assumption) only [go_sem, ↓reduceIte, Nat.reduceEqDiff, Int.reduceEq, Nat.reduceAdd, Nat.reduceSub, Nat.reduceMul, Nat.mul_one, Nat.one_mul, List.length_nil, List.length_cons, List.nil_append, List.cons_append, List.length_append, List.set_cons_zero, List.set_cons_succ, Nat.zero_add, Nat.sub_zero, Option.isNone_none, Option.isNone_some, Int.toNat_natCast, Nat.add_sub_cancel_left, Bool.not_true, Bool.not_false, BitVec.reduceOfInt, Int.reduceToNat, msL_sub, msL_g0, msL_g00, toNat_pred, wr_ms, wr_ms2] | ((with_reducible first | refine gd_bool ?_ ?_ | refine if_bool ?_ ?_ | refine qC_bool ?_ ?_ | refine piC_bool ?_ ?_ | refine zC_bool ?_ ?_ | refine zD_bool ?_ ?_ | refine yC_bool ?_ ?_) <;> intro hh) | clear hK)
  all_goals first
    | exact VS.sub2 (by simp [Fr.sub, Fr.get]) rfl
    | (refine ⟨(k, _), ⟨by rw [← hv1, insK_yes (by assumption)], by simpa using hv2, by omega⟩, by simp only; omega, VS.sub2 ?_ rfl⟩
       simp [Fr.sub, Fr.get]; done)
    | (have e : l1 = ordK l (j + 1) := hv1
       refine ⟨j + 1, by omega, by omega, VS.sub2 ?_ (by rw [e])⟩
       simp [Fr.sub, Fr.get]; done)
    | (have e : l1 = ordK l (j + 1) := by rw [← hv1, insK_no (by assumption)]
       refine ⟨j + 1, by omega, by omega, VS.sub2 ?_ (by rw [e])⟩
       simp [Fr.sub, Fr.get]; done)
    | exact ⟨(tl, cap), by simpa using hcap, VS.sub2 (by simp [Fr.sub, Fr.get]) rfl⟩
    | (refine ⟨(tl, cap), by simpa using hcap, VS.mvx 1 2 (by decide) (by simp) (by simp) (by simp) (by simp) ?_ (by simp [eqX]) ?_ ?_⟩
       · rfl
       · exact ⟨slB_C (msL_pl _) hk0, plO _ (pl_app (msL_pl _) hcap.2.2.2), trivial⟩
       · simp [mvF, Fr.get, slH, mvS, wf_int, wf_bool, wf_sl, wf_pt, wf_nils, wf_str]; done)
    | (have e : ordK l j = ordL l := by rw [ordL, show j = l.length - 1 by omega]
       rw [e]
       exact ⟨p, slOk_len hp (by rw [msL_len, msL_len, ordL_len]), VS.refl _⟩)
end Go.Tb
end
section
namespace Go.Tb
open Go Go.Proofs
variable {z : Nat × Nat}
set_option maxRecDepth 20000
def tgtL (c : Nat → Int) (f : Int) : List Int := if kindOf (c f.toNat) = 6 then stepL c f else reachL c f
def promL (f t : Int) : Nat → List M3
  | 0 => []
  | q + 1 => promL f t q ++ [(f, t, (q : Int) + 2)]
def movL (c : Nat → Int) (f t : Int) : List M3 :=
  if c t.toNat ≠ 0 ∧ sideOf (c t.toNat) = c 64 then [] else if kindOf (c f.toNat) ≠ 6 ∨ t / 8 ≠ 7 - 7 * c 64 then [(f, t, 0)] else promL f t 4
def psqK (c : Nat → Int) (f : Int) : Nat → List M3
  | 0 => []
  | i + 1 => psqK c f i ++ movL c f (iAt (tgtL c f) i)
def ownP (c : Nat → Int) (k : Nat) : Prop := c k ≠ 0 ∧ sideOf (c k) = c 64
instance (c : Nat → Int) (k : Nat) : Decidable (ownP c k) := by unfold ownP; infer_instance
def pseuK (c : Nat → Int) : Nat → List M3
  | 0 => []
  | k + 1 => pseuK c k ++ if ownP c k then psqK c k (tgtL c k).length else []
noncomputable def pseuL (c : Nat → Int) : List M3 := ordL (pseuK c 64 ++ castL c)
theorem tgt_s {c : Nat → Int} {k : Nat} (h : kindOf (c k) = 6) : stepL c k = tgtL c k := (if_pos (show kindOf (c (k : Int).toNat) = 6 by rw [Int.toNat_natCast]; exact h)).symm
theorem tgt_r {c : Nat → Int} {k : Nat} (h : ¬ kindOf (c k) = 6) : reachL c k = tgtL c k := (if_neg (show ¬ kindOf (c (k : Int).toNat) = 6 by rw [Int.toNat_natCast]; exact h)).symm
theorem promL_len (f t : Int) : ∀ q, (promL f t q).length = q
  | 0 => rfl
  | q + 1 => by simp [promL, promL_len f t q]
theorem movL_len (c : Nat → Int) (f t : Int) : (movL c f t).length ≤ 4 := by
  unfold movL; split
  · simp
  · split
    · simp
    · rw [promL_len]; omega
theorem psqK_len (c : Nat → Int) (f : Int) : ∀ i, (psqK c f i).length ≤ 4 * i
  | 0 => Nat.le_refl 0
  | i + 1 => by
    have h1 := psqK_len c f i
    have h2 := movL_len c f (iAt (tgtL c f) i)
    simp only [psqK, List.length_append]; omega
theorem reachL_len (c : Nat → Int) (f : Int) : (reachL c f).length ≤ 56 := by
  have h1 := reachW_len c f (wayF (kindOf (c f.toNat))) (wayL (kindOf (c f.toNat)))
  have h2 := way_len (kindOf (c f.toNat))
  unfold reachL; omega
theorem stepL_len (c : Nat → Int) (f : Int) : (stepL c f).length ≤ 56 := by
  have h1 := stepK_len c f (sideOf (c f.toNat)) (hitL f (sideOf (c f.toNat)) 2).length
  unfold stepK at h1; rw [List.take_length] at h1
  unfold stepL; omega
theorem tgtL_len (c : Nat → Int) (f : Int) : (tgtL c f).length ≤ 56 := by
  unfold tgtL; split
  · exact stepL_len c f
  · exact reachL_len c f
theorem pseuK_len (c : Nat → Int) : ∀ k, (pseuK c k).length ≤ 224 * k
  | 0 => Nat.le_refl 0
  | k + 1 => by
    have h1 := pseuK_len c k
    have h2 := psqK_len c k (tgtL c k).length
    have h3 := tgtL_len c k
    simp only [pseuK, List.length_append]
    split
    · omega
    · simp; omega
theorem rayF_bd (c : Nat → Int) (f r dx dy : Int) (far : Bool) : ∀ k n, ∀ q ∈ rayF c f r dx dy far n k, 0 ≤ q ∧ q < 64
  | 0, _, q, h => by cases h
  | k + 1, n, q, h => by
    simp only [rayF] at h
    split at h
    · cases h
    · rename_i h0
      rcases List.mem_cons.1 h with rfl | h
      · exact ⟨by omega, atSq_lt _ _⟩
      · split at h
        · cases h
        · exact rayF_bd c f r dx dy far k (n + 1) q h
theorem reachL_bd (c : Nat → Int) (f : Int) : ∀ q ∈ reachL c f, 0 ≤ q ∧ q < 64 := by
  intro q hq
  simp only [reachL, reachW, List.mem_flatMap] at hq
  obtain ⟨d, _, hd⟩ := hq
  exact rayF_bd _ _ _ _ _ _ _ _ q hd
theorem advL_bd (c : Nat → Int) {f s : Int} (hf : 0 ≤ f ∧ f ≤ 63) (hs : 0 ≤ s ∧ s ≤ 1) : ∀ q ∈ advL c f s, 0 ≤ q ∧ q < 64 := by
  intro q hq
  unfold advL at hq
  split at hq
  · rename_i h
    rcases List.mem_cons.1 hq with rfl | hq
    · exact ⟨h.1, atSq_lt _ _⟩
    · split at hq
      · rename_i h2
        simp only [List.mem_cons, List.not_mem_nil, or_false] at hq; subst hq
        exact atSq_bd (by omega) (by unfold upOf; omega)
      · cases hq
  · cases hq
theorem stepL_bd (c : Nat → Int) {f : Int} (hf : 0 ≤ f ∧ f ≤ 63) : ∀ q ∈ stepL c f, 0 ≤ q ∧ q < 64 := by
  intro q hq
  rcases List.mem_append.1 hq with h | h
  · exact advL_bd c hf (sideOf_bd _) q h
  · exact hitL_bd _ _ 2 q (List.mem_filter.1 h).1
theorem tgtL_bd (c : Nat → Int) {f : Int} (hf : 0 ≤ f ∧ f ≤ 63) : ∀ q ∈ tgtL c f, 0 ≤ q ∧ q < 64 := by
  unfold tgtL; split
  · exact stepL_bd c hf
  · exact reachL_bd c f
theorem pseuK_no {c : Nat → Int} {k : Nat} (h : ¬ ownP c k) : pseuK c (k + 1) = pseuK c k := by simp only [pseuK]; rw [if_neg h, List.append_nil]
theorem pseuK_yes {c : Nat → Int} {k : Nat} (h : ownP c k) : pseuK c (k + 1) = pseuK c k ++ psqK c k (tgtL c k).length := by simp only [pseuK]; rw [if_pos h]
theorem movL_own {c : Nat → Int} {f t : Int} (h : c t.toNat ≠ 0 ∧ sideOf (c t.toNat) = c 64) : movL c f t = [] := if_pos h
theorem movL_one {c : Nat → Int} {f t : Int} (h : ¬ (c t.toNat ≠ 0 ∧ sideOf (c t.toNat) = c 64)) (h2 : kindOf (c f.toNat) ≠ 6 ∨ t / 8 ≠ 7 - 7 * c 64) : movL c f t = [(f, t, 0)] := (if_neg h).trans (if_pos h2)
theorem movL_prom {c : Nat → Int} {f t : Int} (h : ¬ (c t.toNat ≠ 0 ∧ sideOf (c t.toNat) = c 64)) (h2 : ¬ (kindOf (c f.toNat) ≠ 6 ∨ t / 8 ≠ 7 - 7 * c 64)) : movL c f t = promL f t 4 := (if_neg h).trans (if_neg h2)
def accI (c : Nat → Int) (k i : Nat) : List M3 := pseuK c k ++ psqK c k i
def accQ (c : Nat → Int) (k i q : Nat) : List M3 := accI c k i ++ promL k (iAt (tgtL c k) i) q
theorem accI_0 (c : Nat → Int) (k : Nat) : accI c k 0 = pseuK c k := by simp [accI, psqK]
theorem accQ_0 (c : Nat → Int) (k i : Nat) : accQ c k i 0 = accI c k i := by simp [accQ, promL]
theorem accQ_S (c : Nat → Int) (k i q : Nat) : accQ c k i (q + 1) = accQ c k i q ++ [((k : Int), iAt (tgtL c k) i, (q : Int) + 2)] := by simp [accQ, promL]
theorem accI_S (c : Nat → Int) (k i : Nat) : accI c k (i + 1) = accI c k i ++ movL c k (iAt (tgtL c k) i) := by simp [accI, psqK]
theorem accI_end {c : Nat → Int} {k : Nat} (h : ownP c k) : pseuK c (k + 1) = accI c k (tgtL c k).length := pseuK_yes h
theorem accI_len {c : Nat → Int} {k i : Nat} (hk : k ≤ 64) (hi : i ≤ 56) : (accI c k i).length ≤ 20000 := by
  have h1 := pseuK_len c k
  have h2 := psqK_len c k i
  unfold accI; rw [List.length_append]; omega
theorem accQ_len {c : Nat → Int} {k i q : Nat} (hk : k ≤ 64) (hi : i ≤ 56) (hq : q ≤ 4) : (accQ c k i q).length ≤ 30000 := by
  have h1 := accI_len (c := c) hk hi
  unfold accQ; rw [List.length_append, promL_len]; omega
theorem accI_own {c : Nat → Int} {k i : Nat} (h : c (iAt (tgtL c k) i).toNat ≠ 0 ∧ sideOf (c (iAt (tgtL c k) i).toNat) = c 64) : accI c k (i + 1) = accI c k i := by rw [accI_S, movL_own h, List.append_nil]
theorem accI_one {c : Nat → Int} {k i : Nat} (h : ¬ (c (iAt (tgtL c k) i).toNat ≠ 0 ∧ sideOf (c (iAt (tgtL c k) i).toNat) = c 64)) (h2 : kindOf (c k) ≠ 6 ∨ iAt (tgtL c k) i / 8 ≠ 7 - 7 * c 64) : accI c k (i + 1) = accI c k i ++ [((k : Int), iAt (tgtL c k) i, 0)] := by
  rw [accI_S, movL_one h (by rw [Int.toNat_natCast]; exact h2)]
theorem accI_prom {c : Nat → Int} {k i : Nat} (h : ¬ (c (iAt (tgtL c k) i).toNat ≠ 0 ∧ sideOf (c (iAt (tgtL c k) i).toNat) = c 64)) (h2 : ¬ (kindOf (c k) ≠ 6 ∨ iAt (tgtL c k) i / 8 ≠ 7 - 7 * c 64)) : accI c k (i + 1) = accQ c k i 4 := by
  rw [accI_S, movL_prom h (by rw [Int.toNat_natCast]; exact h2)]; rfl
theorem castL_len (c : Nat → Int) : (castL c).length ≤ 2 := castK_len _ _ 2
theorem plR {c : List Value} {T : TypeId} {σ : Nat → Nat} (h : ∀ v ∈ c, Pl v) : rnO σ (.cells c T) = .cells c T := (plO (n := 0) σ h).1
theorem slB_R {σ : Nat → Nat} {T : TypeId} {con : List Value} {h : Hold} {sz k : Nat} (hc : ∀ v ∈ con, Pl v) (hok : slOk sz k con h) : rnO σ (slB T con h) = slB T con h := (slB_C (n := 0) hc hok).1
theorem pb_p {o : AO} {σ : Nat → Nat} {L : List AO} {j : Nat} (h : L[j]? = some o) (hr : rnO σ o = o) : fitL σ L [j] [o] := ⟨by rw [hr]; exact h, trivial⟩
theorem fix_ord {j n : Nat} {L : List AO} {o : AO} {c : List Value} {T : TypeId} (h : L[j]? = some o) (hr : rnO (sig [j] n) o = o) (hc : ∀ v ∈ c, Pl v) : fixL (sig [j] n) L [j] [o, .cells c T] = L ++ [.cells c T] := by
  have e : c.map (rl (sig [j] n)) = c := by
    conv => rhs; rw [← List.map_id c]
    exact List.map_congr_left fun v hv => hc v hv _
  show setAll (L.set j (rnO (sig [j] n) o)) [] _ ++ [AO.cells (c.map (rl (sig [j] n))) T] = _
  rw [e, hr]
  congr 1
  show L.set j o = L
  apply List.ext_getElem?
  intro k
  rw [List.getElem?_set]
  split
  · rename_i e; subst e; rw [if_pos (List.getElem?_eq_some_iff.1 h).1, h]
  · rfl
theorem rl_slP {j n k : Nat} {p : List Value × Nat} : rl (sig [j] n) (slH 101 k (some p)) = slH (100 + n) k (some p) := by
  obtain ⟨tl, cap⟩ := p; simp [slH, sig]
theorem ordered_ok0 : FnM (Tz z) 55 [slH 100 0 none] [slB 38 (msL []) none] (fun p : List Value × Nat => slOk 3 0 (msL (ordL [])) (some p)) (fun p => slH 101 0 (some p)) (fun p => [slB 38 (msL []) none, .cells (msL (ordL []) ++ p.1) 38]) := ordered_ok [] none (by simp) ⟨rfl, rfl⟩
end Go.Tb
end
section
namespace Go.Tb
open Go Go.Proofs
variable {z : Nat × Nat}
set_option maxRecDepth 20000
attribute [local irreducible] atSq kindOf sideOf tgtL reachL stepL pseuK psqK movL castL ordL promL accI accQ in
set_option maxHeartbeats 8000000 in
theorem pseudo_ok (c : Nat → Int) (hb : Bd c) (hpw : ∀ k : Nat, k < 64 → kindOf (c k) = 6 → 8 ≤ (k : Int) ∧ (k : Int) ≤ 55) (h64 : 0 ≤ c 64 ∧ c 64 ≤ 1) (h65 : 0 ≤ c 65 ∧ c 65 ≤ 15) :
    FnM (Tz z) 26 [posV c] [] (fun p : List Value × Nat => slOk 3 (pseuL c).length (msL (pseuL c)) (some p)) (fun p => slH 100 (pseuL c).length (some p)) (fun p => slM 38 (msL (pseuL c)) (some p)) := by
  have hcl := castL_len c
  refine ⟨by simp [Pl.wf, posV_pl], by simp, ?_, CallM.shiftX (start [0, 1, 2, 3, 4, 5, 6, 7, 8, 9, 11, 26, 29, 39, 60, 72, 80] Tryz.func26 rfl (by decide) rfl (by kernel_rfl) (by simp [Tryz.f26]) ?_)⟩
  · rintro ⟨tl, cap⟩ h o ho
    simp only [slM, List.length_nil, List.drop_zero, List.mem_cons, List.not_mem_nil, or_false] at ho; subst ho; rfl
  simp only [Tryz.f26]
  unfold posV
  repeat' (first | ((with_reducible refine loop (c := Code.seq (Code.seq (Code.region 3 _ _) _) _) (V := [0, 1, 2, 3, 4, 5, 6, 7, 8, 9, 11, 26, 29, 39, 60, 72, 80]) (fun y : Nat × Hold => ([(1, .pointer (some ⟨100, 0, none⟩)), (3, slH 101 (pseuK c y.1).length y.2), (4, .int .i64 y.1)], [.cells (ints .i64 69 c) 24, slB 38 (msL (pseuK c y.1)) y.2])) (fun y => y.1 ≤ 64 ∧ slOk 3 (pseuK c y.1).length (msL (pseuK c y.1)) y.2) (fun y => 64 - y.1) (0, none) (by kernel_rfl) ?_ ?_ (fun y hk => ?_)); (· exact ⟨Nat.zero_le _, by simp [slOk, pseuK, msL]⟩); (· exact VS.holex (L := [.cells (ints .i64 69 c) 24]) (by simp) ⟨plW (ints_pl _ _ _), trivial⟩ (by simp [subW, Fr.get, slH, wf_int, wf_pt, wf_nils, pseuK])); obtain ⟨k, h⟩ := y; obtain ⟨hk1, hk2⟩ := hk; simp only at hk1 hk2; have hln := pseuK_len c k; have hbk := hb k; have hpk := hpw k; have htl := tgtL_len c k) | with_reducible refine seq_y (a := Code.seq (Code.region 8 _ _) _) (fun x : Hold => ([(1, .pointer (some ⟨100, 0, none⟩)), (3, slH 101 (pseuK c k).length h), (4, .int .i64 k), (5, .int .i64 (c k)), (6, slH 102 (tgtL c k).length x)], [.cells (ints .i64 69 c) 24, slB 38 (msL (pseuK c k)) h, slB 3 (isL (tgtL c k)) x])) (fun x => slOk 1 (tgtL c k).length (isL (tgtL c k)) x) (fun x hx1 => (fun hx2 hz1 => ?_) hx1 (slOk_z hx1)) (fun K hJ => ?_) | ((with_reducible refine loop (c := Code.seq (Code.seq (Code.region 12 _ _) _) _) (V := [0, 1, 2, 3, 4, 5, 6, 7, 8, 9, 11, 26, 29, 39, 60, 72, 80]) (fun v : Nat × Hold => ([(1, .pointer (some ⟨100, 0, none⟩)), (3, slH 101 (accI c k v.1).length v.2), (4, .int .i64 k), (5, .int .i64 (c k)), (6, slH 102 (tgtL c k).length x), (7, .int .i64 v.1)], [.cells (ints .i64 69 c) 24, slB 38 (msL (accI c k v.1)) v.2, slB 3 (isL (tgtL c k)) x])) (fun v => v.1 ≤ (tgtL c k).length ∧ slOk 3 (accI c k v.1).length (msL (accI c k v.1)) v.2) (fun v => (tgtL c k).length - v.1) (0, h) (by kernel_rfl) ?_ ?_ (fun v hv => ?_)); (· exact ⟨Nat.zero_le _, by simpa [accI_0] using hk2⟩); (· exact VS.sub2 (by simp [Fr.sub, Fr.get, accI_0]) (by simp [accI_0])); obtain ⟨i, h1⟩ := v; obtain ⟨hi1, hi2⟩ := hv; simp only at hi1 hi2; have hpi := accI_len (c := c) (k := k) (i := i) hk1 (by omega); have hqk := fun hlt : i < (tgtL c k).length => tgtL_bd c (f := k) (by omega) _ (iAt_mem hlt)) | (have hne : (tgtL c k).length ≠ 0 := (by omega); obtain ⟨tl0, cap0, rfl, ht0⟩ := hold_some hx2 hne; clear hx2 hne; simp only [slH_some, slB_some]) | ((with_reducible refine loop (c := Code.seq (Code.seq (Code.region 19 _ _) _) _) (V := [0, 1, 2, 3, 4, 5, 6, 7, 8, 9, 11, 26, 29, 39, 60, 72, 80]) (fun v : Nat × Hold => ([(1, .pointer (some ⟨100, 0, none⟩)), (3, slH 101 (accQ c k i v.1).length v.2), (4, .int .i64 k), (5, .int .i64 (c k)), (6, .slice (some ⟨102, 0, none⟩) (tgtL c k).length cap0), (7, .int .i64 i), (8, .int .i64 (iAt (tgtL c k) i)), (9, .int .i64 ((v.1 : Int) + 2))], [.cells (ints .i64 69 c) 24, slB 38 (msL (accQ c k i v.1)) v.2, .cells (isL (tgtL c k) ++ tl0) 3])) (fun v => v.1 ≤ 4 ∧ slOk 3 (accQ c k i v.1).length (msL (accQ c k i v.1)) v.2) (fun v => 4 - v.1) (0, h1) (by kernel_rfl) ?_ ?_ (fun v hv => ?_)); (· exact ⟨Nat.zero_le _, by simpa [accQ_0] using hi2⟩); (· exact VS.sub2 (by simp [Fr.sub, Fr.get, accQ_0]) (by simp [accQ_0])); obtain ⟨q, h2⟩ := v; obtain ⟨hq1, hq2⟩ := hv; simp only at hq1 hq2; have hpq := accQ_len (c := c) (k := k) (i := i) (q := q) hk1 (by omega) hq1) | (with_reducible refine hJ _ _ ?_; clear hJ) | ((with_reducible refine app_k ?_); refine app_hold (X := Tz z) (i := 1) (e := 38) (sz := 3) (b := 24) (m := 1) (h := h1) (con := msL (accI c k i)) (n := (accI c k i).length) (zc := [.int .i64 0, .int .i64 0, .int .i64 0]) (news := mB (k, iAt (tgtL c k) i, 0)) (by kernel_rfl) (by kernel_rfl) rfl (by simp [Pl.int]) (src_own (j := 3) rfl (by kernel_rfl) rfl) rfl rfl (by decide) rfl hi2 (by omega) (by omega) (fun tl cap hcap => ⟨?_, ?_⟩)) | ((with_reducible refine app_k ?_); refine app_hold (X := Tz z) (i := 1) (e := 38) (sz := 3) (b := 24) (m := 1) (h := h2) (con := msL (accQ c k i q)) (n := (accQ c k i q).length) (zc := [.int .i64 0, .int .i64 0, .int .i64 0]) (news := mB (k, iAt (tgtL c k) i, (q : Int) + 2)) (by kernel_rfl) (by kernel_rfl) rfl (by simp [Pl.int]) (src_own (j := 3) rfl (by kernel_rfl) rfl) rfl rfl (by decide) rfl hq2 (by omega) (by omega) (fun tl cap hcap => ⟨?_, ?_⟩)) | ((with_reducible refine call_fr (steps_ok c (f := k) (by omega)) [] ?_ ?_ ?_ ?_); (· kernel_rfl); (· exact trivial); (· rfl); intro xx hx; rw [tgt_s (by assumption)] at hx ⊢; rcases xx with _ | ⟨tl9, cap9⟩ <;> first | simp only [fix_sl0, slH_none, rl_slice0] | simp only [fix_sl (con := isL (tgtL c k)) (pl_app (isL_plx _) hx.2.2.2), slH_some, rl_slS, List.length_cons, List.length_nil, Nat.zero_add, Nat.reduceAdd, List.cons_append, List.nil_append]) | ((with_reducible refine call_fr (reach_ok c (f := k) (by omega) (by rw [Int.toNat_natCast]; omega)) [] ?_ ?_ ?_ ?_); (· kernel_rfl); (· exact trivial); (· rfl); intro xx hx; rw [tgt_r (by assumption)] at hx ⊢; rcases xx with _ | ⟨tl9, cap9⟩ <;> first | simp only [fix_sl0, slH_none, rl_slice0] | simp only [fix_sl (con := isL (tgtL c k)) (pl_app (isL_plx _) hx.2.2.2), slH_some, rl_slS, List.length_cons, List.length_nil, Nat.zero_add, Nat.reduceAdd, List.cons_append, List.nil_append]) | ((with_reducible refine call_fr (castles_ok c hb h64 h65) [] ?_ ?_ ?_ ?_); (· kernel_rfl); (· exact trivial); (· rfl); intro xx hx; rcases xx with _ | ⟨tl9, cap9⟩ <;> first | simp only [fix_sl0, slH_none, rl_slice0] | simp only [fix_sl (con := msL (castL c)) (pl_app (msL_pl _) hx.2.2.2), slH_some, rl_slS, List.length_cons, List.length_nil, Nat.zero_add, Nat.reduceAdd, List.cons_append, List.nil_append]) | ((with_reducible refine app_k ?_); refine app_holdG (X := Tz z) (i := 1) (e := 38) (sz := 3) (b := 24) (m := (castL c).length) (h := h) (con := msL (pseuK c k)) (n := (pseuK c k).length) (zc := [.int .i64 0, .int .i64 0, .int .i64 0]) (news := msL (castL c)) (by kernel_rfl) (by kernel_rfl) rfl (by simp [Pl.int]) (by first | exact src_tl (j := 2) rfl (by kernel_rfl) (msL_len _) | (rw [hx.1, hx.2]; exact src_nil (by kernel_rfl))) (msL_one' _) (msL_len _) rfl hk2 (by omega) (by omega) (fun e0 e1 => ?_) (fun tl cap hcap => ⟨?_, ?_⟩)) | ((with_reducible refine call_fr (ordered_ok (pseuK c k ++ castL c) (some (tl, cap)) (by rw [List.length_append]; omega) (by rw [List.length_append, msL_app]; exact hcap)) [1] ?_ ?_ ?_ ?_); (· kernel_rfl); (· exact pb_p (by simp [slB, msL_app]) (slB_R (msL_pl _) (show slOk 3 ((pseuK c k).length + (castL c).length) (msL (pseuK c k ++ castL c)) (some (tl, cap)) by rw [msL_app]; exact hcap))); (· simp [slH, sig]; done); intro xx hx2; rw [fix_ord (o := slB 38 (msL (pseuK c k ++ castL c)) (some (tl, cap))) (by simp [slB, msL_app]) (slB_R (msL_pl _) (show slOk 3 ((pseuK c k).length + (castL c).length) (msL (pseuK c k ++ castL c)) (some (tl, cap)) by rw [msL_app]; exact hcap)) (pl_app (msL_pl _) hx2.2.2.2)]; simp only [rl_slP, List.length_cons, List.length_nil, Nat.zero_add, Nat.reduceAdd, List.cons_append, List.nil_append]) | ((with_reducible refine call_fr (ordered_ok (pseuK c k ++ castL c) (some (tl, cap)) (by rw [List.length_append]; omega) (by rw [List.length_append, msL_app]; exact hcap)) [2] ?_ ?_ ?_ ?_); (· kernel_rfl); (· exact pb_p (by simp [slB, msL_app]) (slB_R (msL_pl _) (show slOk 3 ((pseuK c k).length + (castL c).length) (msL (pseuK c k ++ castL c)) (some (tl, cap)) by rw [msL_app]; exact hcap))); (· simp [slH, sig]; done); intro xx hx2; rw [fix_ord (o := slB 38 (msL (pseuK c k ++ castL c)) (some (tl, cap))) (by simp [slB, msL_app]) (slB_R (msL_pl _) (show slOk 3 ((pseuK c k).length + (castL c).length) (msL (pseuK c k ++ castL c)) (some (tl, cap)) by rw [msL_app]; exact hcap)) (pl_app (msL_pl _) hx2.2.2.2)]; simp only [rl_slP, List.length_cons, List.length_nil, Nat.zero_add, Nat.reduceAdd, List.cons_append, List.nil_append]) | ((with_reducible refine call_fr (ordered_ok (pseuK c k ++ castL c) (some (tl, cap)) (by rw [List.length_append]; omega) (by rw [List.length_append, msL_app]; exact hcap)) [3] ?_ ?_ ?_ ?_); (· kernel_rfl); (· exact pb_p (by simp [slB, msL_app]) (slB_R (msL_pl _) (show slOk 3 ((pseuK c k).length + (castL c).length) (msL (pseuK c k ++ castL c)) (some (tl, cap)) by rw [msL_app]; exact hcap))); (· simp [slH, sig]; done); intro xx hx2; rw [fix_ord (o := slB 38 (msL (pseuK c k ++ castL c)) (some (tl, cap))) (by simp [slB, msL_app]) (slB_R (msL_pl _) (show slOk 3 ((pseuK c k).length + (castL c).length) (msL (pseuK c k ++ castL c)) (some (tl, cap)) by rw [msL_app]; exact hcap)) (pl_app (msL_pl _) hx2.2.2.2)]; simp only [rl_slP, List.length_cons, List.length_nil, Nat.zero_add, Nat.reduceAdd, List.cons_append, List.nil_append]) | ((with_reducible refine call_fr ordered_ok0 [1] ?_ ?_ ?_ ?_); (· kernel_rfl); (· exact pb_p (by subst e0; rfl) rfl); (· simp [slH]; done); intro xx hx2; rw [fix_ord (o := slB 38 (msL []) none) (by subst e0; rfl) rfl (pl_app (msL_pl _) hx2.2.2.2)]; simp only [rl_slP, List.length_cons, List.length_nil, Nat.zero_add, Nat.reduceAdd, List.cons_append, List.nil_append]) | (with_reducible first | refine draw (by kernel_rfl) (by kernel_rfl) ?_ | refine call_p (kindOf_ok (by omega) (by omega)) ?_ | refine qG_call (kindOf_ok (by omega) (by omega)) ?_ | refine zG_call (kindOf_ok (by omega) (by omega)) ?_ | refine yG_call (kindOf_ok (by omega) (by omega)) ?_ | refine piG_call (kindOf_ok (by omega) (by omega)) ?_ | refine call_p (sideOf_ok) ?_ | refine qG_call (sideOf_ok) ?_ | refine zG_call (sideOf_ok) ?_ | refine yG_call (sideOf_ok) ?_ | refine piG_call (sideOf_ok) ?_ | refine call_p (rank_ok (by omega) (by omega)) ?_ | refine qG_call (rank_ok (by omega) (by omega)) ?_ | refine zG_call (rank_ok (by omega) (by omega)) ?_ | refine yG_call (rank_ok (by omega) (by omega)) ?_ | refine piG_call (rank_ok (by omega) (by omega)) ?_ | refine seq_k fun K hK => ?_) | (with_reducible refine hK _ _ ?_; clear hK) | ((with_reducible first | refine gd_dec ?_ ?_ | refine gd_ndec ?_ ?_ | refine qC_dec ?_ ?_ | refine qC_ndec ?_ ?_ | refine piC_dec ?_ ?_ | refine piC_ndec ?_ ?_ | refine zC_dec ?_ ?_ | refine zC_ndec ?_ ?_ | refine zD_dec ?_ ?_ | refine yC_dec ?_ ?_ | refine yC_ndec ?_ ?_ | refine if_dec ?_ ?_ | refine if_ndec ?_ ?_) <;> intro hh) | simp -implicitDefEqProofs (disch := first | omega | assumption) only [go_sem, ↓reduceIte, Nat.reduceEqDiff, Int.reduceEq, Nat.reduceAdd, Nat.reduceSub, Nat.reduceMul, Nat.mul_one, Nat.one_mul, List.length_nil, List.length_cons, List.nil_append, List.cons_append, List.length_append, List.set_cons_zero, List.set_cons_succ, Nat.zero_add, Nat.sub_zero, Option.isNone_none, Option.isNone_some, Int.toNat_natCast, Nat.add_sub_cancel_left, Bool.not_true, Bool.not_false, BitVec.reduceOfInt, Int.reduceToNat, isL_g, Int.toNat_natCast, ln_slH] | ((with_reducible first | refine gd_bool ?_ ?_ | refine if_bool ?_ ?_ | refine qC_bool ?_ ?_ | refine piC_bool ?_ ?_ | refine zC_bool ?_ ?_ | refine zD_bool ?_ ?_ | refine yC_bool ?_ ?_) <;> intro hh) | clear hK)
  all_goals first
    | (have e := pseuK_no (c := c) (k := k) (by unfold ownP; omega)
       refine ⟨(k + 1, h), ⟨by simp only; omega, by rw [e]; exact hk2⟩, by simp only; omega, VS.sub2 ?_ (by rw [e])⟩
       simp only [e]; simp [Fr.sub, Fr.get]; (try omega); done)
    | (refine ⟨none, hx, VS.holex (L := [.cells (ints .i64 69 c) 24, slB 38 (msL (pseuK c k)) h]) (by simp) ⟨plW (ints_pl _ _ _), (slB_C (σ := fun i => i) (msL_pl _) hk2).2, trivial⟩ ?_⟩
       simp [subW, Fr.get, slH_none, wf_int, wf_pt, wf_nils, wf_slH]; done)
    | exact ⟨some (tl9, cap9), hx, VS.sub2 (by simp [Fr.sub, Fr.get, slH_some]) rfl⟩
    | (have e := accI_own (c := c) (k := k) (i := i) (by omega)
       refine ⟨(i + 1, h1), ⟨by simp only; omega, by rw [e]; exact hi2⟩, by simp only; omega, VS.sub2 ?_ (by simp only [e, slB_some])⟩
       simp only [e]; simp [Fr.sub, Fr.get, slH_some]; (try omega); done)
    | (have e := accI_prom (c := c) (k := k) (i := i) (by omega) (by omega)
       obtain rfl : q = 4 := by omega
       refine ⟨(i + 1, h2), ⟨by simp only; omega, by rw [e]; exact hq2⟩, by simp only; omega, VS.sub2 ?_ (by simp only [e, slB_some])⟩
       simp only [e]; simp [Fr.sub, Fr.get, slH_some]; (try omega); done)
    | (have e := accQ_S c k i q
       have hcap' : slOk 3 (accQ c k i (q + 1)).length (msL (accQ c k i (q + 1))) (some (tl, cap)) := by
        rw [e, msL_app, msL_one, List.length_append]; exact hcap
       first
         | (refine ⟨(q + 1, some (tl, cap)), ⟨by simp only; omega, hcap'⟩, by simp only; omega, VS.mvx 1 1 (by decide) (by simp) (by simp) (by simp) (by simp) ?_ (by simp [eqX, slB]) ?_ ?_⟩
            · simp [slB, msL_app, msL_one, e]
            · exact ⟨plO _ (ints_pl _ _ _), slB_C (msL_pl _) hcap', plO _ (pl_app (isL_plx _) ht0), trivial⟩
            · simp only [e]; simp [mvF, Fr.get, slH, mvS, wf_int, wf_bool, wf_sl, wf_pt, wf_nils, wf_str]; (try omega); done)
         | (refine ⟨(q + 1, some (tl, cap)), ⟨by simp only; omega, hcap'⟩, by simp only; omega, VS.mvx 1 4 (by decide) (by simp) (by simp) (by simp) (by simp) ?_ (by simp [eqX, slB]) ?_ ?_⟩
            · simp [slB, msL_app, msL_one, e]
            · exact ⟨plO _ (ints_pl _ _ _), slB_C (msL_pl _) hcap', plO _ (pl_app (isL_plx _) ht0), trivial⟩
            · simp only [e]; simp [mvF, Fr.get, slH, mvS, wf_int, wf_bool, wf_sl, wf_pt, wf_nils, wf_str]; (try omega); done))
    | (have e := accI_one (c := c) (k := k) (i := i) (by omega) (by omega)
       have hcap' : slOk 3 (accI c k (i + 1)).length (msL (accI c k (i + 1))) (some (tl, cap)) := by
        rw [e, msL_app, msL_one, List.length_append]; exact hcap
       first
         | (refine ⟨(i + 1, some (tl, cap)), ⟨by simp only; omega, hcap'⟩, by simp only; omega, VS.mvx 1 1 (by decide) (by simp) (by simp) (by simp) (by simp) ?_ (by simp [eqX, slB]) ?_ ?_⟩
            · simp [slB, msL_app, msL_one, e]
            · exact ⟨plO _ (ints_pl _ _ _), slB_C (msL_pl _) hcap', plO _ (pl_app (isL_plx _) ht0), trivial⟩
            · simp only [e]; simp [mvF, Fr.get, slH, mvS, wf_int, wf_bool, wf_sl, wf_pt, wf_nils, wf_str]; (try omega); done)
         | (refine ⟨(i + 1, some (tl, cap)), ⟨by simp only; omega, hcap'⟩, by simp only; omega, VS.mvx 1 4 (by decide) (by simp) (by simp) (by simp) (by simp) ?_ (by simp [eqX, slB]) ?_ ?_⟩
            · simp [slB, msL_app, msL_one, e]
            · exact ⟨plO _ (ints_pl _ _ _), slB_C (msL_pl _) hcap', plO _ (pl_app (isL_plx _) ht0), trivial⟩
            · simp only [e]; simp [mvF, Fr.get, slH, mvS, wf_int, wf_bool, wf_sl, wf_pt, wf_nils, wf_str]; (try omega); done))
    | (have e := accI_end (c := c) (k := k) (by unfold ownP; omega)
       obtain rfl : i = (tgtL c k).length := by omega
       rw [← e] at hi2 ⊢
       refine ⟨(k + 1, h1), ⟨by simp only; omega, hi2⟩, by simp only; omega, VS.cutE (L := [.cells (ints .i64 69 c) 24, slB 38 (msL (pseuK c (k + 1))) h1]) (by simp) ⟨plW (ints_pl _ _ _), (slB_C (σ := fun i => i) (msL_pl _) hi2).2, trivial⟩ ?_⟩
       simp [subW, Fr.get, wf_int, wf_pt, wf_slH]; (try omega); done)
    | (obtain rfl : k = 64 := by omega
       have el : (pseuL c).length = (pseuK c 64).length + (castL c).length := by
        rw [← List.length_append]; exact ordL_len _
       rw [List.length_append] at hx2
       rw [el]
       first
         | exact ⟨xx, hx2, VS.outH (p := 2) rfl (msL_pl _) hx2⟩
         | exact ⟨xx, hx2, VS.outH (p := 3) rfl (msL_pl _) hx2⟩
         | exact ⟨xx, hx2, VS.outH (p := 4) rfl (msL_pl _) hx2⟩)
    | (obtain rfl : k = 64 := by omega
       have e9 : pseuK c 64 ++ castL c = [] := by
        subst e0
        rw [List.eq_nil_of_length_eq_zero hk2.1, List.eq_nil_of_length_eq_zero e1]; rfl
       have e8 : pseuL c = ordL [] := by show ordL (pseuK c 64 ++ castL c) = _; rw [e9]
       rw [show (pseuL c).length = 0 by rw [e8]; exact ordL_len [], e8]
       first
         | exact ⟨xx, hx2, VS.outH (p := 2) rfl (msL_pl _) hx2⟩
         | exact ⟨xx, hx2, VS.outH (p := 3) rfl (msL_pl _) hx2⟩)
end Go.Tb
end
section
namespace Go.Tb
open Go Go.Proofs
variable {z : Nat × Nat}
set_option maxRecDepth 20000
theorem madeC_64 (c : Nat → Int) (f t p : Int) : madeC c f t p 64 = 1 - c 64 := by unfold madeC; rw [upd_at, if_pos rfl]
theorem upd_bd {g : Nat → Int} {i : Nat} {v : Int} (hg : Bd g) (hv : 0 ≤ v ∧ v ≤ 12) : Bd (upd g i v) := fun j hj => by
  rw [upd_at]; split
  · exact hv
  · exact hg j hj
theorem madeC_bd {c : Nat → Int} {f t p : Int} (hf : 0 ≤ f ∧ f ≤ 63) (hb : Bd c) (h64 : 0 ≤ c 64 ∧ c 64 ≤ 1) (hp : 0 ≤ p ∧ p ≤ 6) : Bd (madeC c f t p) := by
  have h1 : Bd (mdTake c f t) := by unfold mdTake; split; (· exact upd_bd hb (by omega)); (· exact hb)
  have h2 : Bd (mdMove c f t) := upd_bd (upd_bd h1 (by omega)) (hb _ (by omega))
  have h3 : Bd (mdProm c f t p) := by unfold mdProm; split; (· exact h2); (· exact upd_bd h2 (by omega))
  have h4 : Bd (mdCast c f t p) := by unfold mdCast; split; (· exact upd_bd (upd_bd h3 (by omega)) (by omega)); (· exact h3)
  intro j hj
  have := h4 j hj
  unfold madeC
  simp only [upd_at]
  rw [if_neg (by omega), if_neg (by omega), if_neg (by omega), if_neg (by omega), if_neg (by omega)]
  exact this
theorem wr_mv3 {a b d : Value} {T : TypeId} {L : List AO} {i : Nat} {x y w : Int} : wrC (some (.cells [a, b, d] T)) L i 3 0 [.int .i64 x, .int .i64 y, .int .i64 w] = some (L.set i (.cells [.int .i64 x, .int .i64 y, .int .i64 w] T)) := by
  exact (wrC_in (s := 3) rfl rfl (by simp)).trans rfl
theorem wr_m2 {a b d : Value} {T : TypeId} {L : List AO} {i : Nat} {x : Int} : wrC (some (.cells [a, b, d] T)) L i 1 2 [.int .i64 x] = some (L.set i (.cells [a, b, .int .i64 x] T)) := by
  exact (wrC_in (s := 1) rfl rfl (by simp)).trans rfl
noncomputable def givesB (c : Nat → Int) (f t p : Int) : Bool := chkB (madeC c f t p) (madeC c f t p 64)
open Classical in
noncomputable def doubtB (c : Nat → Int) (f t p : Int) : Bool := if p ≤ 2 ∨ givesB c f t p = true then false else decide (∃ k : Nat, 2 ≤ k ∧ (k : Int) < p ∧ givesB c f t k = true)
open Classical in
set_option maxHeartbeats 2000000 in
theorem doubt_ok (c : Nat → Int) {f t p : Int} (hf : 0 ≤ f ∧ f ≤ 63) (ht : 0 ≤ t ∧ t ≤ 63) (hp : 0 ≤ p ∧ p ≤ 6) (hb : Bd c) (h64 : 0 ≤ c 64 ∧ c 64 ≤ 1) (h65 : 0 ≤ c 65 ∧ c 65 ≤ 15) (h67 : 0 ≤ c 67 ∧ c 67 ≤ 1000000) (h68 : 0 ≤ c 68 ∧ c 68 ≤ 1000000) :
    FnP (Tz z) 65 [posV c, mV f t p] (.bool (doubtB c f t p)) := by
  refine ⟨by simp [posV_pl, mV_pl], Pl.bool, start [0, 1, 2, 3, 4, 5, 6, 15, 19, 28] Tryz.func65 rfl (by decide) rfl (by kernel_rfl) (by simp [Tryz.f65]) ?_⟩
  simp only [Tryz.f65]
  unfold posV
  repeat' (first | (with_reducible first | refine loop (V := [0, 1, 2, 3, 4, 5, 6, 15, 19, 28]) (fun k : Nat => ([(2, .pointer (some ⟨100, 0, none⟩)), (3, .pointer (some ⟨101, 0, none⟩)), (5, .int .i64 k)], [.cells (ints .i64 69 c) 24, .cells [.int .i64 f, .int .i64 t, .int .i64 p] 38])) (fun k => 2 ≤ k ∧ (k : Int) ≤ p ∧ ∀ i : Nat, 2 ≤ i → i < k → givesB c f t i = false) (fun k => 7 - k) 2 (by kernel_rfl) ?_ ?_ (fun k hk => ?_) | refine call_p (made_ok c hf ht (by omega) hb h64 h65 h67 h68) ?_ | refine qG_call (made_ok c hf ht (by omega) hb h64 h65 h67 h68) ?_ | refine zG_call (made_ok c hf ht (by omega) hb h64 h65 h67 h68) ?_ | refine yG_call (made_ok c hf ht (by omega) hb h64 h65 h67 h68) ?_ | refine piG_call (made_ok c hf ht (by omega) hb h64 h65 h67 h68) ?_ | refine call_p (inCheck_ok _ (by rw [madeC_64]; omega) (madeC_bd hf hb h64 (by omega))) ?_ | refine qG_call (inCheck_ok _ (by rw [madeC_64]; omega) (madeC_bd hf hb h64 (by omega))) ?_ | refine zG_call (inCheck_ok _ (by rw [madeC_64]; omega) (madeC_bd hf hb h64 (by omega))) ?_ | refine yG_call (inCheck_ok _ (by rw [madeC_64]; omega) (madeC_bd hf hb h64 (by omega))) ?_ | refine piG_call (inCheck_ok _ (by rw [madeC_64]; omega) (madeC_bd hf hb h64 (by omega))) ?_ | refine seq_k fun K hK => ?_) | (with_reducible refine hK _ _ ?_; clear hK) | ((with_reducible first | refine gd_dec ?_ ?_ | refine gd_ndec ?_ ?_ | refine qC_dec ?_ ?_ | refine qC_ndec ?_ ?_ | refine piC_dec ?_ ?_ | refine piC_ndec ?_ ?_ | refine zC_dec ?_ ?_ | refine zC_ndec ?_ ?_ | refine zD_dec ?_ ?_ | refine yC_dec ?_ ?_ | refine yC_ndec ?_ ?_ | refine if_dec ?_ ?_ | refine if_ndec ?_ ?_) <;> intro hh) | simp -implicitDefEqProofs (disch := first | omega | assumption) only [go_sem, ↓reduceIte, Nat.reduceEqDiff, Int.reduceEq, Nat.reduceAdd, Nat.reduceSub, Nat.reduceMul, Nat.mul_one, Nat.one_mul, List.length_nil, List.length_cons, List.nil_append, List.cons_append, List.length_append, List.set_cons_zero, List.set_cons_succ, Nat.zero_add, Nat.sub_zero, Option.isNone_none, Option.isNone_some, Int.toNat_natCast, Nat.add_sub_cancel_left, Bool.not_true, Bool.not_false, BitVec.reduceOfInt, Int.reduceToNat, sub3, wr_mv3, wr_m2] | ((with_reducible first | refine gd_bool ?_ ?_ | refine if_bool ?_ ?_ | refine qC_bool ?_ ?_ | refine piC_bool ?_ ?_ | refine zC_bool ?_ ?_ | refine zD_bool ?_ ?_ | refine yC_bool ?_ ?_) <;> intro hh) | clear hK)
  · rw [doubtB, if_pos (.inl hh)]
  · rw [doubtB, if_pos (.inr hh)]
  · exact ⟨by omega, by omega, fun i a b => by omega⟩
  · exact VS.sub2 (by simp [Fr.sub, Fr.get]) rfl
  · refine congrArg Value.bool (Eq.symm ?_)
    rw [doubtB, if_neg (by rintro (h | h); · omega
                           · unfold givesB at h; simp_all)]
    exact decide_eq_true ⟨k, by omega, by omega, by assumption⟩
  · refine ⟨k + 1, ⟨by omega, by omega, fun i a b => ?_⟩, by omega, VS.mv 0 0 (by decide) (by simp) (by simp) (.inl rfl) (by simp) rfl ?_ ?_ ?_⟩
    · rcases Nat.lt_or_ge i k with h | h
      · exact hk.2.2 i a h
      · rw [show i = k by omega]; assumption
    · intro j h1 h2
      have h3 : j = 1 := by simp at h1; omega
      rw [h3]; rfl
    · intro o ho
      simp only [List.mem_cons, List.not_mem_nil, or_false] at ho
      rcases ho with rfl | rfl
      · exact plO _ (ints_pl _ _ _)
      · exact plO _ (by simp [Pl.int])
    · simp [mvF, Fr.get, mvS, wf_int, wf_pt]
  · refine congrArg Value.bool (Eq.symm ?_)
    rw [doubtB, if_neg (by rintro (h | h); · omega
                           · unfold givesB at h; simp_all)]
    refine decide_eq_false ?_
    rintro ⟨j, h1, h2, h3⟩
    have := hk.2.2 j h1 (by omega)
    rw [this] at h3; cases h3
end Go.Tb
end
