/-
  A part of the proof (my own): of the texts that the claim's last text rests on: parts H1, H2, H3, I0.
-/
import Derived.Test.YtigjokkakcmmdaaGreatDoorT15
import Derived.Test.YtigjokkakcmmdaaGreatDoorT14
set_option linter.unusedSimpArgs false
set_option linter.unusedVariables false
section
namespace Go.Tb
open Go Go.Proofs
variable {z : Nat × Nat}
set_option maxRecDepth 20000
theorem CallM.cutX {X : Cx} {f : FuncId} {vs : List Value} {L : List AO} {A : Type} {P : A → Prop} {v : A → Value} {M : A → List AO} (hn : ∀ x, P x → L.length ≤ (M x).length) (hw : ∀ x, P x → ∀ o ∈ M x, o.wf (100 + (M x).length)) (hv : ∀ x, P x → WF (100 + (M x).length) (v x))
    (h : CallM X f vs L fun u N => ∃ x, P x ∧ u = v x ∧ ∃ G, N = M x ++ G) : CallM X f vs L fun u N => ∃ x, P x ∧ u = v x ∧ N = M x :=
  CallM.shift (h.mono fun _ _ ⟨x, hx, h1, G, h2⟩ => ⟨v x, M x, by rw [h2, h1]; exact VS.cut (hn x hx) (hw x hx) (hv x hx), x, hx, rfl, rfl⟩)
theorem wf_int {n : Nat} {k : IntKind} {i : Int} : WF n (.int k i) := Pl.int.wf _
theorem wf_bool {n : Nat} {b : Bool} : WF n (.bool b) := Pl.bool.wf _
theorem wf_nils {n a c : Nat} : WF n (.slice none a c) := fun _ _ _ => by simp
theorem wf_sl {n b o a c : Nat} (h : b < n) : WF n (.slice (some ⟨b, o, none⟩) a c) := fun ρ ρ' e => by simp [e b h]
theorem wf_pt {n b o : Nat} (h : b < n) : WF n (.pointer (some ⟨b, o, none⟩)) := fun ρ ρ' e => by simp [e b h]
theorem plO {c : List Value} {T : TypeId} {n : Nat} (σ : Nat → Nat) (h : ∀ v ∈ c, Pl v) : rnO σ (.cells c T) = .cells c T ∧ (AO.cells c T).wf n := by
  refine ⟨?_, fun v hv => (h v hv).wf _⟩
  show AO.cells (c.map (rl σ)) T = _
  congr 1
  conv => rhs; rw [← List.map_id c]
  exact List.map_congr_left fun v hv => h v hv σ
def subW (n : Nat) (fr : Fr) : Fr → Prop
  | [] => True
  | (t, v) :: r => (fr.get t = some v ∧ WF n v) ∧ subW n fr r
theorem subW_get {n : Nat} {fr : Fr} : ∀ {fr' : Fr}, subW n fr fr' → ∀ t v, fr'.get t = some v → fr.get t = some v ∧ WF n v
  | [], _, t, v, h => by cases h
  | (s, u) :: r, h, t, v, hv => by
    simp only [Fr.get] at hv
    split at hv
    · rename_i e; subst e; simp only [Option.some.injEq] at hv; subst hv; exact h.1
    · exact subW_get h.2 t v hv
theorem isL_pl (l : List Int) : ∀ v ∈ l.map (Value.int .i64), Pl v := fun v hv => by
  obtain ⟨x, _, rfl⟩ := List.mem_map.1 hv; exact Pl.int
theorem pl_app {a b : List Value} (ha : ∀ v ∈ a, Pl v) (hb : ∀ v ∈ b, Pl v) : ∀ v ∈ a ++ b, Pl v := fun v hv => (List.mem_append.1 hv).elim (ha v) (hb v)
def isL (l : List Int) : List Value := l.map (.int .i64)
def slM (T : TypeId) (con : List Value) : Hold → List AO
  | none => []
  | some (tl, _) => [.cells (con ++ tl) T]
def hitT (f s : Int) (k : Nat) : Int := atSq (f % 8 + (2 * (k : Int) - 1)) (f / 8 + upOf s)
def hitL (f s : Int) : Nat → List Int
  | 0 => []
  | k + 1 => hitL f s k ++ if 0 ≤ hitT f s k then [hitT f s k] else []
theorem hitL_len (f s : Int) : ∀ k, (hitL f s k).length ≤ k
  | 0 => Nat.le_refl 0
  | k + 1 => by
    have := hitL_len f s k
    simp only [hitL]; split <;> simp <;> omega
attribute [local irreducible] atSq upOf in
set_option maxHeartbeats 2000000 in
theorem hits_ok2 {f s : Int} (hf : 0 ≤ f ∧ f ≤ 63) (hs : 0 ≤ s ∧ s ≤ 1) : FnM (Tz z) 79 [.int .i64 f, .int .i64 s] [] (fun h : Hold => slOk 1 (hitL f s 2).length (isL (hitL f s 2)) h) (slH 100 (hitL f s 2).length) (slM 3 (isL (hitL f s 2))) := by
  have hu : -1 ≤ upOf s ∧ upOf s ≤ 1 := by unfold upOf; omega
  refine ⟨by simp [Pl.int, Pl.wf], by simp, ?_, CallM.cutX ?_ ?_ ?_ (start [0, 1, 4, 5, 6, 7, 9, 23] Tryz.func79 rfl (by decide) rfl (by kernel_rfl) (by simp [Tryz.f79]) ?_)⟩
  · rintro (_ | ⟨tl, cap⟩) h o ho
    · simp [slM] at ho
    · simp only [slM, List.length_nil, List.drop_zero, List.mem_cons, List.not_mem_nil, or_false] at ho; subst ho; rfl
  · intro x hx; simp
  · rintro (_ | ⟨tl, cap⟩) h o ho
    · simp [slM] at ho
    · simp only [slM, List.mem_cons, List.not_mem_nil, or_false] at ho; subst ho
      exact (plO (fun i => i) (pl_app (isL_pl _) h.2.2.2)).2
  · rintro (_ | ⟨tl, cap⟩) h
    · exact wf_nils
    · exact wf_sl (by simp [slM])
  simp only [Tryz.f79]
  repeat' (first | ((with_reducible refine app_k ?_); refine app_hold (X := Tz z) (i := 0) (e := 3) (sz := 1) (b := 8) (m := 1) (zc := [.int .i64 0]) (news := [.int .i64 (hitT f s y.1)]) (by kernel_rfl) (by kernel_rfl) rfl (by simp [Pl.int]) (src_own (j := 1) rfl (by kernel_rfl) rfl) rfl rfl (by decide) rfl hk.2 (by have := hitL_len f s y.1; omega) (by have := hitL_len f s y.1; omega) (fun tl cap hcap => ⟨?_, ?_⟩)) | with_reducible refine loop (V := [0, 1, 4, 5, 6, 7, 9, 23]) (fun y : Nat × Hold => ([(0, .int .i64 f), (1, .int .i64 s), (5, slH 100 (hitL f s y.1).length y.2), (6, .int .i64 (2 * (y.1 : Int) - 1))], [slB 3 (isL (hitL f s y.1)) y.2])) (fun y => y.1 ≤ 2 ∧ slOk 1 (hitL f s y.1).length (isL (hitL f s y.1)) y.2) (fun y => 2 - y.1) (0, none) (by kernel_rfl) ?_ ?_ (fun y hk => ?_) | with_reducible refine call_p (file_ok (by omega)) ?_ | with_reducible refine qG_call (file_ok (by omega)) ?_ | with_reducible refine zG_call (file_ok (by omega)) ?_ | with_reducible refine yG_call (file_ok (by omega)) ?_ | with_reducible refine piG_call (file_ok (by omega)) ?_ | with_reducible refine call_p (rank_ok (by omega) (by omega)) ?_ | with_reducible refine qG_call (rank_ok (by omega) (by omega)) ?_ | with_reducible refine zG_call (rank_ok (by omega) (by omega)) ?_ | with_reducible refine yG_call (rank_ok (by omega) (by omega)) ?_ | with_reducible refine piG_call (rank_ok (by omega) (by omega)) ?_ | with_reducible refine call_p (up_ok (by omega) (by omega)) ?_ | with_reducible refine qG_call (up_ok (by omega) (by omega)) ?_ | with_reducible refine zG_call (up_ok (by omega) (by omega)) ?_ | with_reducible refine yG_call (up_ok (by omega) (by omega)) ?_ | with_reducible refine piG_call (up_ok (by omega) (by omega)) ?_ | with_reducible refine call_p (at_ok (by omega) (by omega)) ?_ | with_reducible refine qG_call (at_ok (by omega) (by omega)) ?_ | with_reducible refine zG_call (at_ok (by omega) (by omega)) ?_ | with_reducible refine yG_call (at_ok (by omega) (by omega)) ?_ | with_reducible refine piG_call (at_ok (by omega) (by omega)) ?_ | with_reducible refine seq_k fun K hK => ?_ | (with_reducible refine hK _ _ ?_; clear hK) | with_reducible refine gd_dec (fun hh => ?_) (fun hh => ?_) | with_reducible refine gd_ndec (fun hh => ?_) (fun hh => ?_) | with_reducible refine qC_dec (fun hh => ?_) (fun hh => ?_) | with_reducible refine qC_ndec (fun hh => ?_) (fun hh => ?_) | with_reducible refine piC_dec (fun hh => ?_) (fun hh => ?_) | with_reducible refine piC_ndec (fun hh => ?_) (fun hh => ?_) | with_reducible refine zC_dec (fun hh => ?_) (fun hh => ?_) | with_reducible refine zC_ndec (fun hh => ?_) (fun hh => ?_) | with_reducible refine zD_dec (fun hh => ?_) (fun hh => ?_) | with_reducible refine yC_dec (fun hh => ?_) (fun hh => ?_) | with_reducible refine yC_ndec (fun hh => ?_) (fun hh => ?_) | with_reducible refine if_dec (fun hh => ?_) (fun hh => ?_) | with_reducible refine if_ndec (fun hh => ?_) (fun hh => ?_) | simp -implicitDefEqProofs (disch := first | omega | assumption) only [go_sem, ↓reduceIte, Nat.reduceEqDiff, Int.reduceEq, Nat.reduceAdd, Nat.reduceSub, Nat.reduceMul, Nat.mul_one, Nat.one_mul, List.length_nil, List.length_cons, List.nil_append, List.cons_append, List.length_append, List.set_cons_zero, List.set_cons_succ, Nat.zero_add, Nat.sub_zero, Option.isNone_none, Option.isNone_some, Int.toNat_natCast, Nat.add_sub_cancel_left, Bool.not_true, Bool.not_false, BitVec.reduceOfInt, Int.reduceToNat] | with_reducible refine gd_bool (fun hh => ?_) (fun hh => ?_) | with_reducible refine if_bool (fun hh => ?_) (fun hh => ?_) | with_reducible refine qC_bool (fun hh => ?_) (fun hh => ?_) | with_reducible refine piC_bool (fun hh => ?_) (fun hh => ?_) | with_reducible refine zC_bool (fun hh => ?_) (fun hh => ?_) | with_reducible refine zD_bool (fun hh => ?_) (fun hh => ?_) | with_reducible refine yC_bool (fun hh => ?_) (fun hh => ?_) | clear hK)
  · exact ⟨by omega, rfl, rfl⟩
  · exact VS.hole (L := []) (by simp) (by simp) (subW_get (by simp [subW, Fr.get, slH, hitL, wf_int, wf_nils]))
  · have e : hitL f s (y.1 + 1) = hitL f s y.1 ++ [hitT f s y.1] := by simp only [hitL]; rw [if_pos (show 0 ≤ hitT f s y.1 from hh)]
    refine ⟨(y.1 + 1, some (tl, cap)), ⟨by omega, ?_⟩, by simp only; omega, VS.mv 0 0 (by decide) (by simp) (by simp) (.inl rfl) (by simp) ?_ ?_ ?_ ?_⟩
    · rw [e]; simpa [isL] using hcap
    · simp [slB, e, isL]
    · intro k h1 h2; simp at h1; omega
    · intro o ho
      simp only [List.mem_cons, List.not_mem_nil, or_false] at ho; subst ho
      exact plO _ (pl_app (isL_pl _) hcap.2.2.2)
    · simp [mvF, Fr.get, slH, mvS, e, wf_int, wf_sl]; omega
  · have e : hitL f s (y.1 + 1) = hitL f s y.1 ++ [hitT f s y.1] := by simp only [hitL]; rw [if_pos (show 0 ≤ hitT f s y.1 from hh)]
    refine ⟨(y.1 + 1, some (tl, cap)), ⟨by omega, ?_⟩, by simp only; omega, VS.mv 0 2 (by decide) (by simp) (by simp) (.inr (by simp)) (by simp) ?_ ?_ ?_ ?_⟩
    · rw [e]; simpa [isL] using hcap
    · simp [slB, e, isL]
    · intro k h1 h2; simp at h1; omega
    · intro o ho
      simp only [List.mem_cons, List.not_mem_nil, or_false] at ho; subst ho
      exact plO _ (pl_app (isL_pl _) hcap.2.2.2)
    · simp [mvF, Fr.get, slH, mvS, e, wf_int, wf_sl]; omega
  · have e : hitL f s (y.1 + 1) = hitL f s y.1 := by simp only [hitL]; rw [if_neg (show ¬ 0 ≤ hitT f s y.1 from hh), List.append_nil]
    refine ⟨(y.1 + 1, y.2), ⟨by omega, by rw [e]; exact hk.2⟩, by simp only; omega, VS.sub2 ?_ (by rw [e])⟩
    simp [Fr.sub, Fr.get, e]; omega
  · have h2 : y.1 = 2 := by omega
    rw [h2] at hk ⊢
    refine ⟨y.2, hk.2, rfl, ?_⟩
    cases y.2 with
    | none => exact ⟨[.any], rfl⟩
    | some p => exact ⟨[], rfl⟩
end Go.Tb
end
section
namespace Go.Tb
open Go Go.Proofs
variable {z : Nat × Nat}
set_option maxRecDepth 20000
theorem CallM.shiftX {X : Cx} {f : FuncId} {vs : List Value} {L : List AO} {A : Type} {P : A → Prop} {v : A → Value} {M : A → List AO}
    (h : CallM X f vs L fun u N => ∃ x, P x ∧ VS X L.length ([(0, u)], N) ([(0, v x)], M x)) : CallM X f vs L fun u N => ∃ x, P x ∧ u = v x ∧ N = M x :=
  CallM.shift (h.mono fun _ _ ⟨x, hx, h1⟩ => ⟨v x, M x, h1, x, hx, rfl, rfl⟩)
def strL : List (Int × Int) := [(0, 1), (1, 0), (0, -1), (-1, 0)]
def slaL : List (Int × Int) := [(1, 1), (1, -1), (-1, -1), (-1, 1)]
def jmpL : List (Int × Int) := [(1, 2), (2, 1), (2, -1), (1, -2), (-1, -2), (-2, -1), (-2, 1), (-1, 2)]
def prL : List (Int × Int) → List Value
  | [] => []
  | p :: l => .int .i64 p.1 :: .int .i64 p.2 :: prL l
theorem prL_pl : ∀ l, ∀ v ∈ prL l, Pl v
  | [], v, h => by cases h
  | p :: l, v, h => by
    simp only [prL, List.mem_cons] at h
    rcases h with rfl | rfl | h
    · exact Pl.int
    · exact Pl.int
    · exact prL_pl l v h
theorem spl_2 (c : List Value) (o : Nat) (u v : Value) : spl c o [u, v] = c.take o ++ (u :: v :: c.drop (o + 2)) := by simp [spl]
theorem cel2 (k k' : IntKind) (a b : Int) : cellsL (.agg #[.int k a, .int k' b]) = [.int k a, .int k' b] := by simp [cellsL]
set_option maxHeartbeats 2000000 in
theorem straight_ok : FnM (Tz z) 93 [] [] (fun _ : Unit => True) (fun _ => .slice (some ⟨100, 0, none⟩) 4 4) (fun _ => [.cells [.int .i64 (0), .int .i64 (1), .int .i64 (1), .int .i64 (0), .int .i64 (0), .int .i64 (-1), .int .i64 (-1), .int .i64 (0)] 122]) := by
  refine ⟨by simp, by simp, fun _ _ o ho => ?_, start [0] Tryz.func93 rfl (by decide) rfl (by kernel_rfl) (by simp [Tryz.f93]) ?_⟩
  · simp at ho; subst ho; rfl
  simp only [Tryz.f93]
  repeat' (first | with_reducible refine seq_k fun K hK => ?_ | (with_reducible refine hK _ _ ?_; clear hK) | with_reducible refine gd_dec (fun hh => ?_) (fun hh => ?_) | with_reducible refine gd_ndec (fun hh => ?_) (fun hh => ?_) | with_reducible refine qC_dec (fun hh => ?_) (fun hh => ?_) | with_reducible refine qC_ndec (fun hh => ?_) (fun hh => ?_) | with_reducible refine piC_dec (fun hh => ?_) (fun hh => ?_) | with_reducible refine piC_ndec (fun hh => ?_) (fun hh => ?_) | with_reducible refine zC_dec (fun hh => ?_) (fun hh => ?_) | with_reducible refine zC_ndec (fun hh => ?_) (fun hh => ?_) | with_reducible refine zD_dec (fun hh => ?_) (fun hh => ?_) | with_reducible refine yC_dec (fun hh => ?_) (fun hh => ?_) | with_reducible refine yC_ndec (fun hh => ?_) (fun hh => ?_) | with_reducible refine if_dec (fun hh => ?_) (fun hh => ?_) | with_reducible refine if_ndec (fun hh => ?_) (fun hh => ?_) | simp -implicitDefEqProofs (disch := first | omega | assumption) only [go_sem, ↓reduceIte, Nat.reduceEqDiff, Int.reduceEq, Nat.reduceAdd, Nat.reduceSub, Nat.reduceMul, Nat.mul_one, Nat.one_mul, List.length_nil, List.length_cons, List.nil_append, List.cons_append, List.length_append, List.set_cons_zero, List.set_cons_succ, Nat.zero_add, Nat.sub_zero, Option.isNone_none, Option.isNone_some, Int.toNat_natCast, Nat.add_sub_cancel_left, Bool.not_true, Bool.not_false, BitVec.reduceOfInt, Int.reduceToNat, spl_2, cel2, List.take_succ_cons, List.take_zero, List.drop_succ_cons, List.drop_zero, List.drop_nil, List.take_nil] | with_reducible refine gd_bool (fun hh => ?_) (fun hh => ?_) | with_reducible refine if_bool (fun hh => ?_) (fun hh => ?_) | with_reducible refine qC_bool (fun hh => ?_) (fun hh => ?_) | with_reducible refine piC_bool (fun hh => ?_) (fun hh => ?_) | with_reducible refine zC_bool (fun hh => ?_) (fun hh => ?_) | with_reducible refine zD_bool (fun hh => ?_) (fun hh => ?_) | with_reducible refine yC_bool (fun hh => ?_) (fun hh => ?_) | clear hK)
  all_goals exact ⟨(), trivial, by trivial, by trivial⟩
set_option maxHeartbeats 2000000 in
theorem slanting_ok : FnM (Tz z) 94 [] [] (fun _ : Unit => True) (fun _ => .slice (some ⟨100, 0, none⟩) 4 4) (fun _ => [.cells [.int .i64 (1), .int .i64 (1), .int .i64 (1), .int .i64 (-1), .int .i64 (-1), .int .i64 (-1), .int .i64 (-1), .int .i64 (1)] 122]) := by
  refine ⟨by simp, by simp, fun _ _ o ho => ?_, start [0] Tryz.func94 rfl (by decide) rfl (by kernel_rfl) (by simp [Tryz.f94]) ?_⟩
  · simp at ho; subst ho; rfl
  simp only [Tryz.f94]
  repeat' (first | with_reducible refine seq_k fun K hK => ?_ | (with_reducible refine hK _ _ ?_; clear hK) | with_reducible refine gd_dec (fun hh => ?_) (fun hh => ?_) | with_reducible refine gd_ndec (fun hh => ?_) (fun hh => ?_) | with_reducible refine qC_dec (fun hh => ?_) (fun hh => ?_) | with_reducible refine qC_ndec (fun hh => ?_) (fun hh => ?_) | with_reducible refine piC_dec (fun hh => ?_) (fun hh => ?_) | with_reducible refine piC_ndec (fun hh => ?_) (fun hh => ?_) | with_reducible refine zC_dec (fun hh => ?_) (fun hh => ?_) | with_reducible refine zC_ndec (fun hh => ?_) (fun hh => ?_) | with_reducible refine zD_dec (fun hh => ?_) (fun hh => ?_) | with_reducible refine yC_dec (fun hh => ?_) (fun hh => ?_) | with_reducible refine yC_ndec (fun hh => ?_) (fun hh => ?_) | with_reducible refine if_dec (fun hh => ?_) (fun hh => ?_) | with_reducible refine if_ndec (fun hh => ?_) (fun hh => ?_) | simp -implicitDefEqProofs (disch := first | omega | assumption) only [go_sem, ↓reduceIte, Nat.reduceEqDiff, Int.reduceEq, Nat.reduceAdd, Nat.reduceSub, Nat.reduceMul, Nat.mul_one, Nat.one_mul, List.length_nil, List.length_cons, List.nil_append, List.cons_append, List.length_append, List.set_cons_zero, List.set_cons_succ, Nat.zero_add, Nat.sub_zero, Option.isNone_none, Option.isNone_some, Int.toNat_natCast, Nat.add_sub_cancel_left, Bool.not_true, Bool.not_false, BitVec.reduceOfInt, Int.reduceToNat, spl_2, cel2, List.take_succ_cons, List.take_zero, List.drop_succ_cons, List.drop_zero, List.drop_nil, List.take_nil] | with_reducible refine gd_bool (fun hh => ?_) (fun hh => ?_) | with_reducible refine if_bool (fun hh => ?_) (fun hh => ?_) | with_reducible refine qC_bool (fun hh => ?_) (fun hh => ?_) | with_reducible refine piC_bool (fun hh => ?_) (fun hh => ?_) | with_reducible refine zC_bool (fun hh => ?_) (fun hh => ?_) | with_reducible refine zD_bool (fun hh => ?_) (fun hh => ?_) | with_reducible refine yC_bool (fun hh => ?_) (fun hh => ?_) | clear hK)
  all_goals exact ⟨(), trivial, by trivial, by trivial⟩
set_option maxHeartbeats 2000000 in
theorem jumps_ok : FnM (Tz z) 95 [] [] (fun _ : Unit => True) (fun _ => .slice (some ⟨100, 0, none⟩) 8 8) (fun _ => [.cells [.int .i64 (1), .int .i64 (2), .int .i64 (2), .int .i64 (1), .int .i64 (2), .int .i64 (-1), .int .i64 (1), .int .i64 (-2), .int .i64 (-1), .int .i64 (-2), .int .i64 (-2), .int .i64 (-1), .int .i64 (-2), .int .i64 (1), .int .i64 (-1), .int .i64 (2)] 122]) := by
  refine ⟨by simp, by simp, fun _ _ o ho => ?_, start [0] Tryz.func95 rfl (by decide) rfl (by kernel_rfl) (by simp [Tryz.f95]) ?_⟩
  · simp at ho; subst ho; rfl
  simp only [Tryz.f95]
  repeat' (first | with_reducible refine seq_k fun K hK => ?_ | (with_reducible refine hK _ _ ?_; clear hK) | with_reducible refine gd_dec (fun hh => ?_) (fun hh => ?_) | with_reducible refine gd_ndec (fun hh => ?_) (fun hh => ?_) | with_reducible refine qC_dec (fun hh => ?_) (fun hh => ?_) | with_reducible refine qC_ndec (fun hh => ?_) (fun hh => ?_) | with_reducible refine piC_dec (fun hh => ?_) (fun hh => ?_) | with_reducible refine piC_ndec (fun hh => ?_) (fun hh => ?_) | with_reducible refine zC_dec (fun hh => ?_) (fun hh => ?_) | with_reducible refine zC_ndec (fun hh => ?_) (fun hh => ?_) | with_reducible refine zD_dec (fun hh => ?_) (fun hh => ?_) | with_reducible refine yC_dec (fun hh => ?_) (fun hh => ?_) | with_reducible refine yC_ndec (fun hh => ?_) (fun hh => ?_) | with_reducible refine if_dec (fun hh => ?_) (fun hh => ?_) | with_reducible refine if_ndec (fun hh => ?_) (fun hh => ?_) | simp -implicitDefEqProofs (disch := first | omega | assumption) only [go_sem, ↓reduceIte, Nat.reduceEqDiff, Int.reduceEq, Nat.reduceAdd, Nat.reduceSub, Nat.reduceMul, Nat.mul_one, Nat.one_mul, List.length_nil, List.length_cons, List.nil_append, List.cons_append, List.length_append, List.set_cons_zero, List.set_cons_succ, Nat.zero_add, Nat.sub_zero, Option.isNone_none, Option.isNone_some, Int.toNat_natCast, Nat.add_sub_cancel_left, Bool.not_true, Bool.not_false, BitVec.reduceOfInt, Int.reduceToNat, spl_2, cel2, List.take_succ_cons, List.take_zero, List.drop_succ_cons, List.drop_zero, List.drop_nil, List.take_nil] | with_reducible refine gd_bool (fun hh => ?_) (fun hh => ?_) | with_reducible refine if_bool (fun hh => ?_) (fun hh => ?_) | with_reducible refine qC_bool (fun hh => ?_) (fun hh => ?_) | with_reducible refine piC_bool (fun hh => ?_) (fun hh => ?_) | with_reducible refine zC_bool (fun hh => ?_) (fun hh => ?_) | with_reducible refine zD_bool (fun hh => ?_) (fun hh => ?_) | with_reducible refine yC_bool (fun hh => ?_) (fun hh => ?_) | clear hK)
  all_goals exact ⟨(), trivial, by trivial, by trivial⟩
def wayL (k : Int) : List (Int × Int) := if k = 1 then strL ++ slaL else if k = 2 then strL ++ slaL else if k = 3 then strL else if k = 4 then slaL else jmpL
def wayF (k : Int) : Bool := if k = 1 then false else if k = 2 then true else if k = 3 then true else if k = 4 then true else false
theorem way_fin {k : Int} {w : List (Int × Int)} {far : Bool} {p cap : Nat} {tl : List Value} {N : List AO} (hw : wayL k = w) (hf : wayF k = far) (hok : slOk 2 w.length (prL w) (some (tl, cap))) (hp : p < N.length) (hN : N[p]? = some (.cells (prL w ++ tl) 122)) (hip : p = 0 ∨ 1 ≤ p) :
    ∃ x : List Value × Nat, slOk 2 (wayL k).length (prL (wayL k)) (some x) ∧ VS (Tz z) 0 ([(0, .tuple #[.slice (some ⟨100 + p, 0, none⟩) w.length cap, .bool far])], N) ([(0, .tuple #[.slice (some ⟨100, 0, none⟩) (wayL k).length x.2, .bool (wayF k)])], [.cells (prL (wayL k) ++ x.1) 122]) := by
  subst hw; subst hf
  refine ⟨(tl, cap), hok, VS.mv 0 p (by decide) (by simp) hp (by simpa using hip) (by simp; omega) (by simpa using hN) (fun j h1 h2 => by simp at h1; omega) ?_ ?_⟩
  · intro o ho
    simp only [List.mem_cons, List.not_mem_nil, or_false] at ho; subst ho
    exact plO _ (pl_app (prL_pl _) hok.2.2.2)
  · refine ⟨⟨?_, ?_⟩, trivial⟩
    · simp [Fr.get, mvS]
    · refine WF_tuple.2 ?_
      simp only [List.mem_cons, List.not_mem_nil, or_false]
      rintro v (rfl | rfl)
      · exact wf_sl (by simp)
      · exact wf_bool
set_option maxHeartbeats 2000000 in
theorem ways_ok (k : Int) : FnM (Tz z) 80 [.int .i64 k] [] (fun y : List Value × Nat => slOk 2 (wayL k).length (prL (wayL k)) (some y)) (fun y => .tuple [.slice (some ⟨100, 0, none⟩) (wayL k).length y.2, .bool (wayF k)].toArray) (fun y => [.cells (prL (wayL k) ++ y.1) 122]) := by
  refine ⟨by simp [Pl.int, Pl.wf], by simp, fun _ _ o ho => ?_, CallM.shiftX (start [0, 2, 3, 4, 5, 10, 15, 18] Tryz.func80 rfl (by decide) rfl (by kernel_rfl) (by simp [Tryz.f80]) ?_)⟩
  · simp at ho; subst ho; rfl
  simp only [Tryz.f80]
  repeat' (first | ((with_reducible refine call_fr (straight_ok) [] ?_ ?_ ?_ ?_); (· kernel_rfl); (· exact trivial); (· kernel_rfl); intro xx hx; simp -implicitDefEqProofs only [fixL_eq, setAll_cons, setAll_nil, setAll_nil2, List.map_cons, List.map_nil, rn_cells, rn_ro, rn_any, rn_obj, boardL_map, mvL_map, psL_map, map_ints, List.set_cons_zero, List.set_cons_succ, List.length_cons, List.length_nil, List.drop_succ_cons, List.drop_zero, List.drop_nil, List.append_nil, List.nil_append, List.cons_append, rl_tuple, rl_int, rl_bool, rl_string, rl_ptr, rl_ptr0, rl_slice, rl_slice0, rl_agg, List.map_toArray, Array.map_empty, List.length_append, Nat.zero_add, Nat.reduceAdd, sig, Nat.reduceLT, Nat.reduceSub, ↓reduceIte, List.getElem?_cons_zero, List.getElem?_cons_succ, List.getElem?_nil, Nat.reduceAdd, Nat.add_zero, Nat.sub_self]) | ((with_reducible refine call_fr (slanting_ok) [] ?_ ?_ ?_ ?_); (· kernel_rfl); (· exact trivial); (· kernel_rfl); intro xx hx; simp -implicitDefEqProofs only [fixL_eq, setAll_cons, setAll_nil, setAll_nil2, List.map_cons, List.map_nil, rn_cells, rn_ro, rn_any, rn_obj, boardL_map, mvL_map, psL_map, map_ints, List.set_cons_zero, List.set_cons_succ, List.length_cons, List.length_nil, List.drop_succ_cons, List.drop_zero, List.drop_nil, List.append_nil, List.nil_append, List.cons_append, rl_tuple, rl_int, rl_bool, rl_string, rl_ptr, rl_ptr0, rl_slice, rl_slice0, rl_agg, List.map_toArray, Array.map_empty, List.length_append, Nat.zero_add, Nat.reduceAdd, sig, Nat.reduceLT, Nat.reduceSub, ↓reduceIte, List.getElem?_cons_zero, List.getElem?_cons_succ, List.getElem?_nil, Nat.reduceAdd, Nat.add_zero, Nat.sub_self]) | ((with_reducible refine call_fr (jumps_ok) [] ?_ ?_ ?_ ?_); (· kernel_rfl); (· exact trivial); (· kernel_rfl); intro xx hx; simp -implicitDefEqProofs only [fixL_eq, setAll_cons, setAll_nil, setAll_nil2, List.map_cons, List.map_nil, rn_cells, rn_ro, rn_any, rn_obj, boardL_map, mvL_map, psL_map, map_ints, List.set_cons_zero, List.set_cons_succ, List.length_cons, List.length_nil, List.drop_succ_cons, List.drop_zero, List.drop_nil, List.append_nil, List.nil_append, List.cons_append, rl_tuple, rl_int, rl_bool, rl_string, rl_ptr, rl_ptr0, rl_slice, rl_slice0, rl_agg, List.map_toArray, Array.map_empty, List.length_append, Nat.zero_add, Nat.reduceAdd, sig, Nat.reduceLT, Nat.reduceSub, ↓reduceIte, List.getElem?_cons_zero, List.getElem?_cons_succ, List.getElem?_nil, Nat.reduceAdd, Nat.add_zero, Nat.sub_self]) | ((with_reducible refine app_k ?_); refine app_hold (X := Tz z) (i := 0) (e := 122) (sz := 2) (b := 16) (n := 4) (m := 4) (h := some ([], 4)) (con := prL strL) (news := prL slaL) (zc := [.int .i64 0, .int .i64 0]) (by kernel_rfl) (by kernel_rfl) rfl (by simp [Pl.int]) (src_own (j := 1) rfl (by kernel_rfl) rfl) rfl rfl (by decide) rfl ⟨rfl, rfl, by decide, by simp⟩ (by decide) (by decide) (fun tl cap hcap => ⟨?_, ?_⟩)) | with_reducible refine seq_k fun K hK => ?_ | (with_reducible refine hK _ _ ?_; clear hK) | with_reducible refine gd_dec (fun hh => ?_) (fun hh => ?_) | with_reducible refine gd_ndec (fun hh => ?_) (fun hh => ?_) | with_reducible refine qC_dec (fun hh => ?_) (fun hh => ?_) | with_reducible refine qC_ndec (fun hh => ?_) (fun hh => ?_) | with_reducible refine piC_dec (fun hh => ?_) (fun hh => ?_) | with_reducible refine piC_ndec (fun hh => ?_) (fun hh => ?_) | with_reducible refine zC_dec (fun hh => ?_) (fun hh => ?_) | with_reducible refine zC_ndec (fun hh => ?_) (fun hh => ?_) | with_reducible refine zD_dec (fun hh => ?_) (fun hh => ?_) | with_reducible refine yC_dec (fun hh => ?_) (fun hh => ?_) | with_reducible refine yC_ndec (fun hh => ?_) (fun hh => ?_) | with_reducible refine if_dec (fun hh => ?_) (fun hh => ?_) | with_reducible refine if_ndec (fun hh => ?_) (fun hh => ?_) | simp -implicitDefEqProofs (disch := first | omega | assumption) only [go_sem, ↓reduceIte, Nat.reduceEqDiff, Int.reduceEq, Nat.reduceAdd, Nat.reduceSub, Nat.reduceMul, Nat.mul_one, Nat.one_mul, List.length_nil, List.length_cons, List.nil_append, List.cons_append, List.length_append, List.set_cons_zero, List.set_cons_succ, Nat.zero_add, Nat.sub_zero, Option.isNone_none, Option.isNone_some, Int.toNat_natCast, Nat.add_sub_cancel_left, Bool.not_true, Bool.not_false, BitVec.reduceOfInt, Int.reduceToNat] | with_reducible refine gd_bool (fun hh => ?_) (fun hh => ?_) | with_reducible refine if_bool (fun hh => ?_) (fun hh => ?_) | with_reducible refine qC_bool (fun hh => ?_) (fun hh => ?_) | with_reducible refine piC_bool (fun hh => ?_) (fun hh => ?_) | with_reducible refine zC_bool (fun hh => ?_) (fun hh => ?_) | with_reducible refine zD_bool (fun hh => ?_) (fun hh => ?_) | with_reducible refine yC_bool (fun hh => ?_) (fun hh => ?_) | clear hK)
  all_goals first
    | exact way_fin (p := 0) (w := strL ++ slaL) (by simp [wayL, *]) (by simp [wayF, *]) hcap (by simp) rfl (by decide)
    | exact way_fin (p := 2) (w := strL ++ slaL) (by simp [wayL, *]) (by simp [wayF, *]) hcap (by simp) rfl (by decide)
    | exact way_fin (p := 0) (w := strL) (tl := []) (cap := 4) (by simp [wayL, *]) (by simp [wayF, *]) ⟨rfl, rfl, by decide, by simp⟩ (by simp) rfl (by decide)
    | exact way_fin (p := 0) (w := slaL) (tl := []) (cap := 4) (by simp [wayL, *]) (by simp [wayF, *]) ⟨rfl, rfl, by decide, by simp⟩ (by simp) rfl (by decide)
    | exact way_fin (p := 0) (w := jmpL) (tl := []) (cap := 8) (by simp [wayL, *]) (by simp [wayF, *]) ⟨rfl, rfl, by decide, by simp⟩ (by simp) rfl (by decide)
end Go.Tb
end
section
namespace Go.Tb
open Go Go.Proofs
variable {z : Nat × Nat}
set_option maxRecDepth 20000
theorem fix_w {n : Nat} {L : List AO} {w : List (Int × Int)} {tl : List Value} (h : ∀ v ∈ tl, Pl v) : fixL (sig [] n) L [] [.cells (prL w ++ tl) 122] = L ++ [.cells (prL w ++ tl) 122] := by
  have e : (prL w ++ tl).map (rl (sig [] n)) = prL w ++ tl := by
    conv => rhs; rw [← List.map_id (prL w ++ tl)]
    exact List.map_congr_left fun v hv => (pl_app (prL_pl w) h) v hv _
  show setAll L [] _ ++ [AO.cells ((prL w ++ tl).map (rl (sig [] n))) 122] = _
  rw [e]; rfl
theorem rl_w {n cap : Nat} {b : Bool} : rl (sig [] 1) (.tuple #[.slice (some ⟨100, 0, none⟩) n cap, .bool b]) = .tuple #[.slice (some ⟨101, 0, none⟩) n cap, .bool b] := by simp [sig]
def rayF (c : Nat → Int) (f r dx dy : Int) (far : Bool) : Nat → Nat → List Int
  | _, 0 => []
  | n, k + 1 => if atSq (f + n * dx) (r + n * dy) < 0 then [] else atSq (f + n * dx) (r + n * dy) :: if far = false ∨ c (atSq (f + n * dx) (r + n * dy)).toNat ≠ 0 then [] else rayF c f r dx dy far (n + 1) k
def rayD (c : Nat → Int) (fm : Int) (far : Bool) (d : Int × Int) : List Int := rayF c (fm % 8) (fm / 8) d.1 d.2 far 1 7
def reachW (c : Nat → Int) (fm : Int) (far : Bool) (w : List (Int × Int)) : List Int := w.flatMap (rayD c fm far)
def reachL (c : Nat → Int) (fm : Int) : List Int := reachW c fm (wayF (kindOf (c fm.toNat))) (wayL (kindOf (c fm.toNat)))
def wAt (w : List (Int × Int)) (i : Nat) : Int × Int := w.getD i (0, 0)
theorem prL_get : ∀ (w : List (Int × Int)) (tl : List Value) (i : Nat), i < w.length → (prL w ++ tl)[i * 2]? = some (.int .i64 (wAt w i).1) ∧ (prL w ++ tl)[i * 2 + 1]? = some (.int .i64 (wAt w i).2)
  | [], _, _, h => by simp at h
  | p :: w, tl, 0, _ => by simp [prL, wAt]
  | p :: w, tl, i + 1, h => by
    have := prL_get w tl i (by simpa using h)
    rw [show (i + 1) * 2 = i * 2 + 2 by omega]
    simpa [prL, wAt] using this
theorem prL_g0 {w : List (Int × Int)} {tl : List Value} {i : Nat} (h : i < w.length) : (prL w ++ tl)[i * 2 + 0]? = some (.int .i64 (wAt w i).1) := (prL_get w tl i h).1
theorem prL_g1 {w : List (Int × Int)} {tl : List Value} {i : Nat} (h : i < w.length) : (prL w ++ tl)[i * 2 + 1]? = some (.int .i64 (wAt w i).2) := (prL_get w tl i h).2
theorem way_all (k : Int) : ∀ p ∈ wayL k, (-2 ≤ p.1 ∧ p.1 ≤ 2) ∧ (-2 ≤ p.2 ∧ p.2 ≤ 2) := by
  unfold wayL strL slaL jmpL; (repeat' split) <;> decide
theorem wAt_bd (k : Int) (i : Nat) : (-2 ≤ (wAt (wayL k) i).1 ∧ (wAt (wayL k) i).1 ≤ 2) ∧ (-2 ≤ (wAt (wayL k) i).2 ∧ (wAt (wayL k) i).2 ≤ 2) := by
  unfold wAt
  rcases Nat.lt_or_ge i (wayL k).length with h | h
  · rw [List.getD_eq_getElem?_getD, List.getElem?_eq_getElem h]; exact way_all k _ (List.getElem_mem h)
  · rw [List.getD_eq_getElem?_getD, List.getElem?_eq_none h]; decide
theorem mul_bd {n : Nat} {d : Int} (hn : n ≤ 8) (hd : -2 ≤ d ∧ d ≤ 2) : -16 ≤ (n : Int) * d ∧ (n : Int) * d ≤ 16 := by
  have : d = -2 ∨ d = -1 ∨ d = 0 ∨ d = 1 ∨ d = 2 := by omega
  rcases this with rfl | rfl | rfl | rfl | rfl <;> omega
theorem rayF_len (c : Nat → Int) (f r dx dy : Int) (far : Bool) : ∀ k n, (rayF c f r dx dy far n k).length ≤ k
  | 0, _ => Nat.le_refl 0
  | k + 1, n => by
    have := rayF_len c f r dx dy far k (n + 1)
    simp only [rayF]
    (repeat' split) <;> simp <;> omega
theorem reachW_len (c : Nat → Int) (fm : Int) (far : Bool) : ∀ w, (reachW c fm far w).length ≤ 7 * w.length
  | [] => Nat.le_refl 0
  | d :: w => by
    have h1 := reachW_len c fm far w
    have h2 := rayF_len c (fm % 8) (fm / 8) d.1 d.2 far 7 1
    simp only [reachW, List.flatMap_cons, List.length_append, List.length_cons, rayD] at h1 ⊢
    omega
theorem atSq_lt (f r : Int) : atSq f r < 64 := by unfold atSq; split <;> omega
theorem reach_step {c : Nat → Int} {fm : Int} {far : Bool} {w : List (Int × Int)} {i : Nat} (h : i < w.length) : reachW c fm far (w.take i) ++ rayF c (fm % 8) (fm / 8) (wAt w i).1 (wAt w i).2 far 1 7 = reachW c fm far (w.take (i + 1)) := by
  unfold reachW
  rw [List.take_add_one, List.getElem?_eq_getElem h, Option.toList_some, List.flatMap_append, List.flatMap_cons, List.flatMap_nil, List.append_nil, rayD, wAt, List.getD_eq_getElem?_getD, List.getElem?_eq_getElem h]
  rfl
theorem ray_8 {c : Nat → Int} {f r dx dy : Int} {far : Bool} {n : Nat} (h : 8 ≤ n) : rayF c f r dx dy far n (8 - n) = [] := by
  rw [show 8 - n = 0 by omega]; rfl
theorem ray_neg {c : Nat → Int} {f r dx dy : Int} {far : Bool} {n : Nat} (h : n < 8) (ha : atSq (f + n * dx) (r + n * dy) < 0) : rayF c f r dx dy far n (8 - n) = [] := by
  rw [show 8 - n = (8 - (n + 1)) + 1 by omega, rayF, if_pos ha]
theorem ray_stop {c : Nat → Int} {f r dx dy : Int} {far : Bool} {n : Nat} (h : n < 8) (ha : ¬ atSq (f + n * dx) (r + n * dy) < 0) (hb : far = false ∨ c (atSq (f + n * dx) (r + n * dy)).toNat ≠ 0) : rayF c f r dx dy far n (8 - n) = [atSq (f + n * dx) (r + n * dy)] := by
  rw [show 8 - n = (8 - (n + 1)) + 1 by omega, rayF, if_neg ha, if_pos hb]
theorem ray_on {c : Nat → Int} {f r dx dy : Int} {far : Bool} {n : Nat} (h : n < 8) (ha : ¬ atSq (f + n * dx) (r + n * dy) < 0) (hb : ¬ (far = false ∨ c (atSq (f + n * dx) (r + n * dy)).toNat ≠ 0)) : rayF c f r dx dy far n (8 - n) = atSq (f + n * dx) (r + n * dy) :: rayF c f r dx dy far (n + 1) (8 - (n + 1)) := by
  rw [show 8 - n = (8 - (n + 1)) + 1 by omega, rayF, if_neg ha, if_neg hb]
theorem way_len (k : Int) : (wayL k).length ≤ 8 := by unfold wayL strL slaL jmpL; (repeat' split) <;> decide
theorem acc_len {c : Nat → Int} {fm : Int} {far : Bool} {k : Int} {i : Nat} {a b : List Int} (h : a ++ b = reachW c fm far ((wayL k).take i)) : a.length ≤ 56 := by
  have h1 := reachW_len c fm far ((wayL k).take i)
  have h2 := way_len k
  have h3 : ((wayL k).take i).length ≤ (wayL k).length := by rw [List.length_take]; omega
  have h4 := congrArg List.length h
  rw [List.length_append] at h4
  omega
attribute [local irreducible] atSq wayF kindOf prL wAt in
set_option maxHeartbeats 2000000 in
theorem reach_ok (c : Nat → Int) {f : Int} (hf : 0 ≤ f ∧ f ≤ 63) (hc : 0 ≤ c f.toNat ∧ c f.toNat ≤ 12) : FnM (Tz z) 54 [posV c, .int .i64 f] [] (fun h : Hold => slOk 1 (reachL c f).length (isL (reachL c f)) h) (slH 100 (reachL c f).length) (slM 3 (isL (reachL c f))) := by
  refine ⟨by simp [Pl.int, Pl.wf, posV_pl], by simp, ?_, CallM.shiftX (start [0, 1, 2, 4, 5, 6, 7, 8, 9, 10, 23, 27, 52, 65] Tryz.func54 rfl (by decide) rfl (by kernel_rfl) (by simp [Tryz.f54]) ?_)⟩
  · rintro (_ | ⟨tl, cap⟩) h o ho
    · simp [slM] at ho
    · simp only [slM, List.length_nil, List.drop_zero, List.mem_cons, List.not_mem_nil, or_false] at ho; subst ho; rfl
  simp only [Tryz.f54]
  unfold posV
  have hwl := way_len (kindOf (c f.toNat))
  repeat' (first | with_reducible refine call_p (kindOf_ok (by omega) (by omega)) ?_ | with_reducible refine qG_call (kindOf_ok (by omega) (by omega)) ?_ | with_reducible refine zG_call (kindOf_ok (by omega) (by omega)) ?_ | with_reducible refine yG_call (kindOf_ok (by omega) (by omega)) ?_ | with_reducible refine piG_call (kindOf_ok (by omega) (by omega)) ?_ | ((with_reducible refine call_fr (ways_ok (kindOf (c f.toNat))) [] ?_ ?_ ?_ ?_); (· kernel_rfl); (· exact trivial); (· rfl); intro xx hx; simp only [List.length_cons, List.length_nil, Nat.zero_add, Nat.reduceAdd, List.toArray, fix_w hx.2.2.2, rl_w, List.cons_append, List.nil_append]) | (with_reducible refine loop (c := Code.seq (Code.seq (Code.region 7 _ _) _) _) (V := [0, 1, 2, 4, 5, 6, 7, 8, 9, 10, 23, 27, 52, 65]) (fun v : Nat × List Int × Hold => ([(1, .int .i64 f), (2, .pointer (some ⟨100, 0, none⟩)), (5, .slice (some ⟨101, 0, none⟩) (wayL (kindOf (c f.toNat))).length xx.2), (6, .bool (wayF (kindOf (c f.toNat)))), (7, slH 102 v.2.1.length v.2.2), (8, .int .i64 y.1), (9, .int .i64 v.1)], [.cells (ints .i64 69 c) 24, .cells (prL (wayL (kindOf (c f.toNat))) ++ xx.1) 122, slB 3 (isL v.2.1) v.2.2])) (fun v => 1 ≤ v.1 ∧ v.1 ≤ 8 ∧ v.2.1 ++ rayF c (f % 8) (f / 8) (wAt (wayL (kindOf (c f.toNat))) y.1).1 (wAt (wayL (kindOf (c f.toNat))) y.1).2 (wayF (kindOf (c f.toNat))) v.1 (8 - v.1) = reachW c f (wayF (kindOf (c f.toNat))) ((wayL (kindOf (c f.toNat))).take (y.1 + 1)) ∧ slOk 1 v.2.1.length (isL v.2.1) v.2.2) (fun v => 8 - v.1) (1, reachW c f (wayF (kindOf (c f.toNat))) ((wayL (kindOf (c f.toNat))).take y.1), y.2) (by kernel_rfl) ?_ ?_ (fun v hv => (fun m1 m2 m3 m4 => ?_) (mul_bd hv.2.1 (wAt_bd (kindOf (c f.toNat)) y.1).1) (mul_bd hv.2.1 (wAt_bd (kindOf (c f.toNat)) y.1).2) (acc_len hv.2.2.1) (atSq_lt (f % 8 + (v.1 : Int) * (wAt (wayL (kindOf (c f.toNat))) y.1).1) (f / 8 + (v.1 : Int) * (wAt (wayL (kindOf (c f.toNat))) y.1).2)))) | (with_reducible refine seq_y (a := Code.block 1 _) (fun h : Hold => ([(1, .int .i64 f), (2, .pointer (some ⟨100, 0, none⟩)), (5, .slice (some ⟨101, 0, none⟩) (wayL (kindOf (c f.toNat))).length xx.2), (6, .bool (wayF (kindOf (c f.toNat)))), (7, slH 102 (reachW c f (wayF (kindOf (c f.toNat))) ((wayL (kindOf (c f.toNat))).take (y.1 + 1))).length h), (8, .int .i64 y.1)], [.cells (ints .i64 69 c) 24, .cells (prL (wayL (kindOf (c f.toNat))) ++ xx.1) 122, slB 3 (isL (reachW c f (wayF (kindOf (c f.toNat))) ((wayL (kindOf (c f.toNat))).take (y.1 + 1)))) h])) (fun h => slOk 1 (reachW c f (wayF (kindOf (c f.toNat))) ((wayL (kindOf (c f.toNat))).take (y.1 + 1))).length (isL (reachW c f (wayF (kindOf (c f.toNat))) ((wayL (kindOf (c f.toNat))).take (y.1 + 1)))) h) (fun h hh1 => ?_) (fun K hJ => ?_)) | (with_reducible refine loop (c := Code.seq (Code.seq (Code.region 4 _ _) _) _) (V := [0, 1, 2, 4, 5, 6, 7, 8, 9, 10, 23, 27, 52, 65]) (fun y : Nat × Hold => ([(1, .int .i64 f), (2, .pointer (some ⟨100, 0, none⟩)), (5, .slice (some ⟨101, 0, none⟩) (wayL (kindOf (c f.toNat))).length xx.2), (6, .bool (wayF (kindOf (c f.toNat)))), (7, slH 102 (reachW c f (wayF (kindOf (c f.toNat))) ((wayL (kindOf (c f.toNat))).take y.1)).length y.2), (8, .int .i64 y.1)], [.cells (ints .i64 69 c) 24, .cells (prL (wayL (kindOf (c f.toNat))) ++ xx.1) 122, slB 3 (isL (reachW c f (wayF (kindOf (c f.toNat))) ((wayL (kindOf (c f.toNat))).take y.1))) y.2])) (fun y => y.1 ≤ (wayL (kindOf (c f.toNat))).length ∧ slOk 1 (reachW c f (wayF (kindOf (c f.toNat))) ((wayL (kindOf (c f.toNat))).take y.1)).length (isL (reachW c f (wayF (kindOf (c f.toNat))) ((wayL (kindOf (c f.toNat))).take y.1))) y.2) (fun y => (wayL (kindOf (c f.toNat))).length - y.1) (0, none) (by kernel_rfl) ?_ ?_ (fun y hk => ?_)) | (with_reducible refine hJ _ _ ?_; clear hJ) | ((with_reducible refine app_k ?_); refine app_hold (X := Tz z) (i := 2) (e := 3) (sz := 1) (b := 8) (m := 1) (zc := [.int .i64 0]) (news := [.int .i64 (atSq (f % 8 + (v.1 : Int) * (wAt (wayL (kindOf (c f.toNat))) y.1).1) (f / 8 + (v.1 : Int) * (wAt (wayL (kindOf (c f.toNat))) y.1).2))]) (by kernel_rfl) (by kernel_rfl) rfl (by simp [Pl.int]) (src_own (j := 3) rfl (by kernel_rfl) rfl) rfl rfl (by decide) rfl hv.2.2.2 (by omega) (by omega) (fun tl cap hcap => ⟨?_, ?_⟩)) | with_reducible refine draw (by kernel_rfl) (by kernel_rfl) ?_ | with_reducible refine call_p (at_ok (by omega) (by omega)) ?_ | with_reducible refine qG_call (at_ok (by omega) (by omega)) ?_ | with_reducible refine zG_call (at_ok (by omega) (by omega)) ?_ | with_reducible refine yG_call (at_ok (by omega) (by omega)) ?_ | with_reducible refine piG_call (at_ok (by omega) (by omega)) ?_ | with_reducible refine call_p (file_ok (by omega)) ?_ | with_reducible refine qG_call (file_ok (by omega)) ?_ | with_reducible refine zG_call (file_ok (by omega)) ?_ | with_reducible refine yG_call (file_ok (by omega)) ?_ | with_reducible refine piG_call (file_ok (by omega)) ?_ | with_reducible refine call_p (rank_ok (by omega) (by omega)) ?_ | with_reducible refine qG_call (rank_ok (by omega) (by omega)) ?_ | with_reducible refine zG_call (rank_ok (by omega) (by omega)) ?_ | with_reducible refine yG_call (rank_ok (by omega) (by omega)) ?_ | with_reducible refine piG_call (rank_ok (by omega) (by omega)) ?_ | with_reducible refine seq_k fun K hK => ?_ | (with_reducible refine hK _ _ ?_; clear hK) | with_reducible refine gd_dec (fun hh => ?_) (fun hh => ?_) | with_reducible refine gd_ndec (fun hh => ?_) (fun hh => ?_) | with_reducible refine qC_dec (fun hh => ?_) (fun hh => ?_) | with_reducible refine qC_ndec (fun hh => ?_) (fun hh => ?_) | with_reducible refine piC_dec (fun hh => ?_) (fun hh => ?_) | with_reducible refine piC_ndec (fun hh => ?_) (fun hh => ?_) | with_reducible refine zC_dec (fun hh => ?_) (fun hh => ?_) | with_reducible refine zC_ndec (fun hh => ?_) (fun hh => ?_) | with_reducible refine zD_dec (fun hh => ?_) (fun hh => ?_) | with_reducible refine yC_dec (fun hh => ?_) (fun hh => ?_) | with_reducible refine yC_ndec (fun hh => ?_) (fun hh => ?_) | with_reducible refine if_dec (fun hh => ?_) (fun hh => ?_) | with_reducible refine if_ndec (fun hh => ?_) (fun hh => ?_) | simp -implicitDefEqProofs (disch := first | omega | assumption) only [go_sem, ↓reduceIte, Nat.reduceEqDiff, Int.reduceEq, Nat.reduceAdd, Nat.reduceSub, Nat.reduceMul, Nat.mul_one, Nat.one_mul, List.length_nil, List.length_cons, List.nil_append, List.cons_append, List.length_append, List.set_cons_zero, List.set_cons_succ, Nat.zero_add, Nat.sub_zero, Option.isNone_none, Option.isNone_some, Int.toNat_natCast, Nat.add_sub_cancel_left, Bool.not_true, Bool.not_false, BitVec.reduceOfInt, Int.reduceToNat, prL_g0, prL_g1, pickV_T, pickV_F, onGd_T, onGd_F] | with_reducible refine gd_bool (fun hh => ?_) (fun hh => ?_) | with_reducible refine if_bool (fun hh => ?_) (fun hh => ?_) | with_reducible refine qC_bool (fun hh => ?_) (fun hh => ?_) | with_reducible refine piC_bool (fun hh => ?_) (fun hh => ?_) | with_reducible refine zC_bool (fun hh => ?_) (fun hh => ?_) | with_reducible refine zD_bool (fun hh => ?_) (fun hh => ?_) | with_reducible refine yC_bool (fun hh => ?_) (fun hh => ?_) | clear hK)
  all_goals first
    | exact ⟨Nat.zero_le _, by simp [slOk, reachW, isL]⟩
    | (refine VS.hole (L := [.cells (ints .i64 69 c) 24, .cells (prL (wayL (kindOf (c f.toNat))) ++ xx.1) 122]) (by simp) ?_ (subW_get ?_)
       · intro o ho
         simp only [List.mem_cons, List.not_mem_nil, or_false] at ho
         rcases ho with rfl | rfl
         · exact (plO (fun i => i) (ints_pl _ _ _)).2
         · exact (plO (fun i => i) (pl_app (prL_pl _) hx.2.2.2)).2
       · simp [subW, Fr.get, slH, reachW, wf_int, wf_nils, wf_bool, wf_sl, wf_pt]; done)
    | (refine ⟨(y.1 + 1, h), ⟨by simp only; omega, hh1⟩, by simp only; omega, VS.sub2 ?_ rfl⟩
       simp [Fr.sub, Fr.get]; done)
    | exact ⟨by omega, by omega, reach_step (by omega), hk.2⟩
    | (refine VS.sub2 ?_ rfl
       simp [Fr.sub, Fr.get]; done)
    | (have e := hv.2.2.1
       first
         | rw [ray_8 (by omega), List.append_nil] at e
         | rw [ray_neg (by omega) (by omega), List.append_nil] at e
       refine ⟨v.2.2, e ▸ hv.2.2.2, VS.sub2 ?_ (by rw [← e])⟩
       simp [Fr.sub, Fr.get, ← e]; done)
    | (have e := hv.2.2.1
       rw [ray_stop (by omega) (by assumption) (by first | (left; simpa using hh) | (right; assumption))] at e
       refine ⟨some (tl, cap), ?_, VS.mv 2 2 (by decide) (by simp) (by simp) (by simp) (by simp) ?_ ?_ ?_ ?_⟩
       · rw [← e]; simpa [isL] using hcap
       · simp [slB, ← e, isL]
       · intro k h1 h2
         have h3 : k = 0 ∨ k = 1 := by simp at h1; omega
         rcases h3 with rfl | rfl <;> rfl
       · intro o ho
         simp only [List.mem_cons, List.not_mem_nil, or_false] at ho
         rcases ho with rfl | rfl | rfl
         · exact plO _ (ints_pl _ _ _)
         · exact plO _ (pl_app (prL_pl _) hx.2.2.2)
         · exact plO _ (pl_app (isL_pl _) hcap.2.2.2)
       · simp [mvF, Fr.get, slH, mvS, ← e, wf_int, wf_bool, wf_sl, wf_pt]; done)
    | (have e := hv.2.2.1
       rw [ray_stop (by omega) (by assumption) (by first | (left; simpa using hh) | (right; assumption))] at e
       refine ⟨some (tl, cap), ?_, VS.mv 2 4 (by decide) (by simp) (by simp) (by simp) (by simp) ?_ ?_ ?_ ?_⟩
       · rw [← e]; simpa [isL] using hcap
       · simp [slB, ← e, isL]
       · intro k h1 h2
         have h3 : k = 0 ∨ k = 1 := by simp at h1; omega
         rcases h3 with rfl | rfl <;> rfl
       · intro o ho
         simp only [List.mem_cons, List.not_mem_nil, or_false] at ho
         rcases ho with rfl | rfl | rfl
         · exact plO _ (ints_pl _ _ _)
         · exact plO _ (pl_app (prL_pl _) hx.2.2.2)
         · exact plO _ (pl_app (isL_pl _) hcap.2.2.2)
       · simp [mvF, Fr.get, slH, mvS, ← e, wf_int, wf_bool, wf_sl, wf_pt]; done)
    | (have e := hv.2.2.1
       rw [ray_on (by omega) (by assumption) (by simp_all)] at e
       refine ⟨(v.1 + 1, v.2.1 ++ [atSq (f % 8 + (v.1 : Int) * (wAt (wayL (kindOf (c f.toNat))) y.1).1) (f / 8 + (v.1 : Int) * (wAt (wayL (kindOf (c f.toNat))) y.1).2)], some (tl, cap)), ⟨by simp only; omega, by simp only; omega, by simpa using e, by simpa [isL] using hcap⟩, by simp only; omega, VS.mv 2 2 (by decide) (by simp) (by simp) (by simp) (by simp) ?_ ?_ ?_ ?_⟩
       · simp [slB, isL]
       · intro k h1 h2
         have h3 : k = 0 ∨ k = 1 := by simp at h1; omega
         rcases h3 with rfl | rfl <;> rfl
       · intro o ho
         simp only [List.mem_cons, List.not_mem_nil, or_false] at ho
         rcases ho with rfl | rfl | rfl
         · exact plO _ (ints_pl _ _ _)
         · exact plO _ (pl_app (prL_pl _) hx.2.2.2)
         · exact plO _ (pl_app (isL_pl _) hcap.2.2.2)
       · simp [mvF, Fr.get, slH, mvS, wf_int, wf_bool, wf_sl, wf_pt]; done)
    | (have e := hv.2.2.1
       rw [ray_on (by omega) (by assumption) (by simp_all)] at e
       refine ⟨(v.1 + 1, v.2.1 ++ [atSq (f % 8 + (v.1 : Int) * (wAt (wayL (kindOf (c f.toNat))) y.1).1) (f / 8 + (v.1 : Int) * (wAt (wayL (kindOf (c f.toNat))) y.1).2)], some (tl, cap)), ⟨by simp only; omega, by simp only; omega, by simpa using e, by simpa [isL] using hcap⟩, by simp only; omega, VS.mv 2 4 (by decide) (by simp) (by simp) (by simp) (by simp) ?_ ?_ ?_ ?_⟩
       · simp [slB, isL]
       · intro k h1 h2
         have h3 : k = 0 ∨ k = 1 := by simp at h1; omega
         rcases h3 with rfl | rfl <;> rfl
       · intro o ho
         simp only [List.mem_cons, List.not_mem_nil, or_false] at ho
         rcases ho with rfl | rfl | rfl
         · exact plO _ (ints_pl _ _ _)
         · exact plO _ (pl_app (prL_pl _) hx.2.2.2)
         · exact plO _ (pl_app (isL_pl _) hcap.2.2.2)
       · simp [mvF, Fr.get, slH, mvS, wf_int, wf_bool, wf_sl, wf_pt]; done)
    | (have h2 : y.1 = (wayL (kindOf (c f.toNat))).length := by omega
       have e : reachW c f (wayF (kindOf (c f.toNat))) ((wayL (kindOf (c f.toNat))).take y.1) = reachL c f := by rw [h2, List.take_length]; rfl
       rw [e] at hk ⊢
       obtain ⟨i, hq⟩ := y
       refine ⟨hq, hk.2, ?_⟩
       cases hq with
       | none => exact VS.cut (L := []) (Nat.zero_le _) (by simp) wf_nils
       | some q =>
         refine VS.mv 0 2 (by decide) (by simp [slM]) (by simp) (by simp [slM]) (by simp [slM]) rfl (fun k h1 h2 => by simp [slM] at h1; omega) ?_ ⟨⟨by simp [Fr.get, slH, mvS], wf_sl (by simp [slM])⟩, trivial⟩
         intro o ho
         simp only [slM, List.mem_cons, List.not_mem_nil, or_false] at ho; subst ho
         exact plO _ (pl_app (isL_pl _) hk.2.2.2.2))
end Go.Tb
end
section
namespace Go.Tb
open Go Go.Proofs
variable {z : Nat × Nat}
set_option maxRecDepth 20000
theorem fix_sl {n : Nat} {L : List AO} {T : TypeId} {con tl : List Value} {cap : Nat} (h : ∀ v ∈ con ++ tl, Pl v) : fixL (sig [] n) L [] (slM T con (some (tl, cap))) = L ++ [.cells (con ++ tl) T] := by
  have e : (con ++ tl).map (rl (sig [] n)) = con ++ tl := by
    conv => rhs; rw [← List.map_id (con ++ tl)]
    exact List.map_congr_left fun v hv => h v hv _
  show setAll L [] _ ++ [AO.cells ((con ++ tl).map (rl (sig [] n))) T] = _
  rw [e]; rfl
theorem fix_sl0 {n : Nat} {L : List AO} {T : TypeId} {con : List Value} : fixL (sig [] n) L [] (slM T con none) = L := by
  show setAll L [] _ ++ [] = _
  rw [List.append_nil]; rfl
theorem rl_slH {n k : Nat} {p : List Value × Nat} : rl (sig [] n) (slH 100 k (some p)) = slH (100 + n) k (some p) := by
  obtain ⟨tl, cap⟩ := p
  simp [slH, sig]
theorem rl_slS {n k cap : Nat} : rl (sig [] n) (.slice (some ⟨100, 0, none⟩) k cap) = .slice (some ⟨100 + n, 0, none⟩) k cap := by simp [sig]
theorem rl_sl0 {σ : Nat → Nat} {b k : Nat} : rl σ (slH b k none) = slH b k none := by simp [slH]
theorem slH_some (b n : Nat) (tl : List Value) (cap : Nat) : slH b n (some (tl, cap)) = .slice (some ⟨b, 0, none⟩) n cap := rfl
theorem slH_none (b n : Nat) : slH b n none = .slice none 0 0 := rfl
theorem slB_some (T : TypeId) (con tl : List Value) (cap : Nat) : slB T con (some (tl, cap)) = .cells (con ++ tl) T := rfl
theorem hold_some {sz n : Nat} {con : List Value} {h : Hold} (hok : slOk sz n con h) (hn : n ≠ 0) : ∃ tl cap, h = some (tl, cap) ∧ ∀ v ∈ tl, Pl v := by
  cases h with
  | none => exact absurd hok.1 hn
  | some p => exact ⟨p.1, p.2, rfl, hok.2.2.2⟩
theorem isL_len (l : List Int) : (isL l).length = l.length := by simp [isL]
theorem isL_app (a b : List Int) : isL (a ++ b) = isL a ++ isL b := by simp [isL]
def iAt (l : List Int) (i : Nat) : Int := l.getD i 0
theorem iAt_get {l : List Int} {i : Nat} (h : i < l.length) : l[i]? = some (iAt l i) := by simp [iAt, List.getD_eq_getElem?_getD, h]
theorem iAt_mem {l : List Int} {i : Nat} (h : i < l.length) : iAt l i ∈ l := List.mem_of_getElem? (iAt_get h)
theorem isL_g {l : List Int} {tl : List Value} {i : Nat} (h : i < l.length) : (isL l ++ tl)[i]? = some (.int .i64 (iAt l i)) := by
  rw [List.getElem?_append_left (by rw [isL_len]; exact h), isL, List.getElem?_map, iAt_get h]; rfl
def eqX (i : Nat) : Nat → List AO → List AO → Prop
  | _, _, [] => True
  | _, [], _ :: _ => False
  | k, m :: ms, o :: os => (k = i ∨ m = o) ∧ eqX i (k + 1) ms os
theorem eqX_get {i : Nat} : ∀ {M L : List AO} {b : Nat}, eqX i b M L → ∀ k, k < L.length → b + k ≠ i → M[k]? = L[k]?
  | _, [], _, _, k, hk, _ => by simp at hk
  | [], _ :: _, _, h, _, _, _ => h.elim
  | m :: ms, o :: os, b, h, 0, _, hi => by
    rcases h.1 with h1 | h1
    · exact absurd (by omega) hi
    · rw [h1]; rfl
  | m :: ms, o :: os, b, h, k + 1, hk, hi => by
    have := eqX_get h.2 k (by simpa using hk) (by omega)
    simpa using this
def allC (σ : Nat → Nat) (n : Nat) : List AO → Prop
  | [] => True
  | o :: os => (rnO σ o = o ∧ o.wf n) ∧ allC σ n os
theorem allC_mem {σ : Nat → Nat} {n : Nat} : ∀ {L : List AO}, allC σ n L → ∀ o ∈ L, rnO σ o = o ∧ o.wf n
  | o :: os, h, p, hp => by
    cases hp with
    | head => exact h.1
    | tail _ hp => exact allC_mem h.2 p hp
theorem VS.mvx {X : Cx} {n0 : Nat} (i p : Nat) {fr fr' : Fr} {M L' : List AO} (hn : n0 ≤ i) (hi : i < L'.length) (hp : p < M.length) (hip : p = i ∨ L'.length ≤ p) (hl : L'.length ≤ M.length) (hM : M[p]? = L'[i]?)
    (hk : eqX i 0 M L') (hc : allC (mvS i p) (100 + L'.length) L') (hf : mvF i p (100 + L'.length) fr fr') : VS X n0 (fr, M) (fr', L') :=
  VS.mv i p hn hi hp hip hl hM (fun k h1 h2 => eqX_get hk k h1 (by omega)) (allC_mem hc) hf
def allW (n : Nat) : List AO → Prop
  | [] => True
  | o :: os => o.wf n ∧ allW n os
theorem allW_mem {n : Nat} : ∀ {L : List AO}, allW n L → ∀ o ∈ L, o.wf n
  | o :: os, h, p, hp => by
    cases hp with
    | head => exact h.1
    | tail _ hp => exact allW_mem h.2 p hp
theorem VS.holex {X : Cx} {n0 : Nat} {fr fr' : Fr} {L : List AO} (hn : n0 ≤ L.length) (hc : allW (100 + L.length) L) (hf : subW (100 + L.length) fr fr') : VS X n0 (fr, L) (fr', L ++ [.any]) :=
  VS.hole hn (allW_mem hc) (subW_get hf)
theorem anyC {σ : Nat → Nat} {n : Nat} : rnO σ .any = .any ∧ AO.any.wf n := ⟨rfl, trivial⟩
theorem plW {c : List Value} {T : TypeId} {n : Nat} (h : ∀ v ∈ c, Pl v) : (AO.cells c T).wf n := (plO (fun i => i) h).2
theorem slB_C {σ : Nat → Nat} {n : Nat} {T : TypeId} {con : List Value} {h : Hold} {sz k : Nat} (hc : ∀ v ∈ con, Pl v) (hok : slOk sz k con h) : rnO σ (slB T con h) = slB T con h ∧ (slB T con h).wf n := by
  cases h with
  | none => exact anyC
  | some p => exact plO σ (pl_app hc hok.2.2.2)
theorem VS.outH {X : Cx} {p n k sz : Nat} {T : TypeId} {con : List Value} {h : Hold} {L : List AO} (hp : L[p]? = some (slB T con h)) (hc : ∀ v ∈ con, Pl v) (hok : slOk sz k con h) : VS X 0 ([(0, slH (100 + p) n h)], L) ([(0, slH 100 n h)], slM T con h) := by
  have hl := (List.getElem?_eq_some_iff.1 hp).1
  cases h with
  | none => exact VS.cut (L := []) (Nat.zero_le _) (by simp) wf_nils
  | some q =>
    obtain ⟨tl, cap⟩ := q
    refine VS.mv 0 p (by decide) (by simp [slM]) hl (by simp [slM]; omega) (by simp [slM]; omega) hp (fun k h1 h2 => by simp [slM] at h1; omega) ?_ ⟨⟨by simp [Fr.get, slH, mvS], wf_sl (by simp [slM])⟩, trivial⟩
    intro o ho
    simp only [slM, List.mem_cons, List.not_mem_nil, or_false] at ho; subst ho
    exact plO _ (pl_app hc hok.2.2.2)
theorem slOk_z {sz n : Nat} {con : List Value} {h : Hold} (hok : slOk sz n con h) : h = none → n = 0 := fun e => by subst e; exact hok.1
theorem ln_slH {e b n : Nat} {h : Hold} (hz : h = none → n = 0) : lnU (some (.slice e)) (slH b n h) = some (.int .i64 n) := by
  cases h with
  | none => rw [hz rfl]; rfl
  | some p => rfl
theorem wf_slH {b k n : Nat} {h : Hold} (hb : b < n) : WF n (slH b k h) := by
  cases h with
  | none => exact wf_nils
  | some p => exact wf_sl hb
theorem VS.cutE {X : Cx} {n0 : Nat} {fr fr' : Fr} {L G : List AO} (hn : n0 ≤ L.length) (hw : allW (100 + L.length) L) (hf : subW (100 + L.length) fr fr') : VS X n0 (fr, L ++ G) (fr', L) := by
  have hg : ∀ i o, L[i]? = some o → (X.pad ++ (L ++ G))[100 + i]? = some o := fun i o h => by
    rw [get_own, List.getElem?_append_left (List.getElem?_eq_some_iff.1 h).1]; exact h
  refine VS.rename (fun i => i) (fun _ _ => rfl) (fun i o hi h _ => ?_) hn (fun i hi => by simp; omega) (fun i j o h _ hj e => e) (fun i c T h => ?_) (fun i b c h => ?_) (fun i o h => hg i _ h) (fun t y hy => ?_)
  · rw [List.getElem?_append_left (by omega)] at h; exact h
  · rw [map_rl_id]; exact ⟨hg i _ h, allW_mem hw _ (List.mem_of_getElem? h)⟩
  · rw [map_rl_id]; exact ⟨hg i _ h, allW_mem hw _ (List.mem_of_getElem? h)⟩
  · rw [rl_id]; exact subW_get hf t y hy
theorem isL_plx (l : List Int) : ∀ v ∈ isL l, Pl v := isL_pl l
theorem wf_str {n : Nat} {b : ByteArray} : WF n (.string b) := Pl.str.wf _
end Go.Tb
end
