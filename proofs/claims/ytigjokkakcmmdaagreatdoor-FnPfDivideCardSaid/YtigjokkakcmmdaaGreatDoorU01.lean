/-
  A part of the proof (my own): of the texts that the claim's last text rests on: parts S0, S1.
-/
import Derived.Test.YtigjokkakcmmdaaGreatDoorT15
import Derived.Test.YtigjokkakcmmdaaGreatDoorT09
import Derived.Test.YtigjokkakcmmdaaGreatDoorT11
import Derived.Test.YtigjokkakcmmdaaGreatDoorT20
import Derived.Test.YtigjokkakcmmdaaGreatDoorT21
set_option linter.unusedSimpArgs false
set_option linter.unusedVariables false
section
namespace Go.Tb
open Go Go.Proofs
section
variable {X : Cx}
def fitA (σ : Nat → Nat) (L : List AO) : List Nat → List AO → Prop
  | [], [] => True
  | j :: js, o :: os => (o = .any ∨ L[j]? = some (rnO σ o)) ∧ fitA σ L js os
  | _, _ => False
theorem fitA_get {σ : Nat → Nat} {L : List AO} : ∀ {ks : List Nat} {L' : List AO}, fitA σ L ks L' → ∀ (i : Nat) (o : AO), L'[i]? = some o → ∃ j : Nat, ks[i]? = some j ∧ (o = .any ∨ L[j]? = some (rnO σ o))
  | [], [], _, i, o, h => by simp at h
  | j :: js, o' :: os, h, 0, o, ho => by
    simp only [List.getElem?_cons_zero, Option.some.injEq] at ho; subst ho
    exact ⟨j, rfl, h.1⟩
  | j :: js, o' :: os, h, i + 1, o, ho => by
    simp only [List.getElem?_cons_succ] at ho
    exact fitA_get h.2 i o ho
  | [], _ :: _, h, _, _, _ => h.elim
  | _ :: _, [], h, _, _, _ => h.elim
def mvG (σ : Nat → Nat) (n : Nat) (fr : Fr) : Fr → Prop
  | [] => True
  | (t, v) :: r => (fr.get t = some (rl σ v) ∧ WF n v) ∧ mvG σ n fr r
theorem mvG_get {σ : Nat → Nat} {n : Nat} {fr : Fr} : ∀ {fr' : Fr}, mvG σ n fr fr' → ∀ t v, fr'.get t = some v → fr.get t = some (rl σ v) ∧ WF n v
  | [], _, t, v, h => by cases h
  | (s, u) :: r, h, t, v, hv => by
    simp only [Fr.get] at hv
    split at hv
    · rename_i e; subst e
      simp only [Option.some.injEq] at hv; subst hv
      exact h.1
    · exact mvG_get h.2 t v hv
theorem VS.ren0 {fr fr' : Fr} {L L' : List AO} (ks : List Nat) (hi : idxOk ks L'.length L.length = true) (hf : fitA (sig ks 0) L ks L') (hw : allW (100 + L'.length) L') (hfr : mvG (sig ks 0) (100 + L'.length) fr fr') : VS X 0 (fr, L) (fr', L') := by
  have hi' := hi
  simp only [idxOk, Bool.and_eq_true, beq_iff_eq, List.all_eq_true, decide_eq_true_eq] at hi'
  obtain ⟨⟨hl, hin⟩, hnd⟩ := hi'
  have hs : ∀ i j, ks[i]? = some j → sig ks 0 (100 + i) = 100 + j := fun i j hj => by
    simp only [sig]; rw [if_neg (by omega), show 100 + i - 100 = i by omega, hj]
  have hL : ∀ i o, L'[i]? = some o → o ≠ .any → L[ks[i]?.getD 0]? = some (rnO (sig ks 0) o) ∧ sig ks 0 (100 + i) = 100 + ks[i]?.getD 0 := fun i o h hne => by
    obtain ⟨j, h1, h2⟩ := fitA_get hf i o h
    rw [h1]
    rcases h2 with h2 | h2
    · exact absurd h2 hne
    · exact ⟨h2, hs i j h1⟩
  refine VS.rename (sig ks 0) (fun i hi => ?_) (fun i o hi h hwr => by omega) (Nat.zero_le _) (fun i hj => ?_) (fun i j o h hwr hj e => ?_) (fun i c T h => ?_) (fun i z c h => ?_) (fun i o h => ?_) (fun t y hy => mvG_get hfr t y hy)
  · simp [sig, show i < 100 by omega]
  · exact sig_lt hi (by omega)
  · have hi2 : i < L'.length := (List.getElem?_eq_some_iff.1 h).1
    have e1 := hs i _ (List.getElem?_eq_getElem (show i < ks.length by omega))
    by_cases h1 : j < 100
    · rw [e1] at e
      simp only [sig, h1, if_true] at e
      omega
    · have e2 := hs (j - 100) _ (List.getElem?_eq_getElem (show j - 100 < ks.length by omega))
      rw [show 100 + (j - 100) = j by omega] at e2
      rw [e1, e2] at e
      have := (List.getElem_inj hnd).1 (show ks[i] = ks[j - 100] by omega)
      omega
  · obtain ⟨g1, g2⟩ := hL i _ h (by simp)
    rw [g2, get_own]
    exact ⟨g1, allW_mem hw _ (List.mem_of_getElem? h)⟩
  · obtain ⟨g1, g2⟩ := hL i _ h (by simp)
    rw [g2, get_own]
    exact ⟨g1, allW_mem hw _ (List.mem_of_getElem? h)⟩
  · obtain ⟨g1, g2⟩ := hL i _ h (by simp)
    rw [g2, get_own]
    exact g1
variable {all os : List Oper} {ss : List Step} {pl : List (Nat × Step)} {acc : AccA} {fr : Fr} {L : List AO} {K : Fr → List AO → Prop} {i : Nat} {dst : Option Tmp} {js : List Nat} {vs : List Value} {ts : List TypeId}
theorem piE_app (h : app2 X L vs ts fun v L' => chk js acc L' ∧ wpPi X all pl acc (fr.put dst v) L' K) : piE X (.a vs ts) dst js all pl acc fr L K := h
theorem zE_app (h : app2 X L vs ts fun v L' => chk js acc L' ∧ wpPz X all (i + 1) os ss acc (fr.put dst v) L' K) : zE X (.a vs ts) dst js i all os ss acc fr L K := h
end
end Go.Tb
end
section
namespace Go.Tb
open Go Go.Proofs
variable {z : Nat × Nat}
set_option maxRecDepth 20000
theorem wr_p3 {a b d : Value} {x y w : Int} {T : TypeId} {L : List AO} {i : Nat} : wrC (some (.cells [a, b, d] T)) L i 3 0 [.int .i64 x, .int .i64 y, .int .i64 w] = some (L.set i (.cells [.int .i64 x, .int .i64 y, .int .i64 w] T)) := (wrC_in (s := 3) rfl rfl (by simp)).trans rfl
set_option maxHeartbeats 4000000 in
theorem plain_ok (M : Mv) (h1 : 0 ≤ M.s1 ∧ M.s1 ≤ 63) (h2 : 0 ≤ M.s2 ∧ M.s2 ≤ 63) (h3 : 0 ≤ M.promo ∧ M.promo ≤ 6) : FnR1 (Tz z) 24 (mvL M) 60 [] (.agg (mB (toM M)).toArray) := by
  refine ⟨by simp, mvL_pl M, Pl.agg (by simp [mB, Pl.int]), CallM.cut (by simp) (fun o ho => ?_) ((Pl.agg (by simp [mB, Pl.int])).wf _) (start [0, 2] Tryz.func24 rfl (by decide) rfl (by kernel_rfl) (by simp [Tryz.f24]) ?_)⟩
  · simp only [List.mem_singleton] at ho; subst ho
    exact fun u hu => (mvL_pl M u hu).wf _
  simp only [Tryz.f24]
  repeat' (first | ((with_reducible refine call_ri (f := 43) ?_ ?_ ?_ ?_ ?_ ?_ ?_); rotate_left 3; (· first | omega | decide); (· first | rfl | simp; done); (· refine s1_ok _ <;> omega)) | ((with_reducible refine qG_ri (f := 43) ?_ ?_ ?_ ?_ ?_ ?_ ?_); rotate_left 3; (· first | omega | decide); (· first | rfl | simp; done); (· refine s1_ok _ <;> omega)) | ((with_reducible refine zG_ri (f := 43) ?_ ?_ ?_ ?_ ?_ ?_ ?_); rotate_left 3; (· first | omega | decide); (· first | rfl | simp; done); (· refine s1_ok _ <;> omega)) | ((with_reducible refine call_ri (f := 44) ?_ ?_ ?_ ?_ ?_ ?_ ?_); rotate_left 3; (· first | omega | decide); (· first | rfl | simp; done); (· refine s2_ok _ <;> omega)) | ((with_reducible refine qG_ri (f := 44) ?_ ?_ ?_ ?_ ?_ ?_ ?_); rotate_left 3; (· first | omega | decide); (· first | rfl | simp; done); (· refine s2_ok _ <;> omega)) | ((with_reducible refine zG_ri (f := 44) ?_ ?_ ?_ ?_ ?_ ?_ ?_); rotate_left 3; (· first | omega | decide); (· first | rfl | simp; done); (· refine s2_ok _ <;> omega)) | ((with_reducible refine call_ri (f := 41) ?_ ?_ ?_ ?_ ?_ ?_ ?_); rotate_left 3; (· first | omega | decide); (· first | rfl | simp; done); (· refine promo_ok _ <;> omega)) | ((with_reducible refine qG_ri (f := 41) ?_ ?_ ?_ ?_ ?_ ?_ ?_); rotate_left 3; (· first | omega | decide); (· first | rfl | simp; done); (· refine promo_ok _ <;> omega)) | ((with_reducible refine zG_ri (f := 41) ?_ ?_ ?_ ?_ ?_ ?_ ?_); rotate_left 3; (· first | omega | decide); (· first | rfl | simp; done); (· refine promo_ok _ <;> omega)) | with_reducible refine seq_k fun K hK => ?_ | (with_reducible refine hK _ _ ?_; clear hK) | ((with_reducible first | refine gd_dec ?_ ?_ | refine gd_ndec ?_ ?_ | refine qC_dec ?_ ?_ | refine qC_ndec ?_ ?_ | refine piC_dec ?_ ?_ | refine piC_ndec ?_ ?_ | refine zC_dec ?_ ?_ | refine zC_ndec ?_ ?_ | refine zD_dec ?_ ?_ | refine yC_dec ?_ ?_ | refine yC_ndec ?_ ?_ | refine if_dec ?_ ?_ | refine if_ndec ?_ ?_) <;> intro hh) | simp -implicitDefEqProofs (disch := first | omega | assumption) only [go_sem, ↓reduceIte, Nat.reduceEqDiff, Int.reduceEq, Nat.reduceAdd, Nat.reduceSub, Nat.reduceMul, Nat.mul_one, Nat.one_mul, List.length_nil, List.length_cons, List.nil_append, List.cons_append, List.length_append, List.set_cons_zero, List.set_cons_succ, Nat.zero_add, Nat.sub_zero, Option.isNone_none, Option.isNone_some, Int.toNat_natCast, Nat.add_sub_cancel_left, Bool.not_true, Bool.not_false, BitVec.reduceOfInt, Int.reduceToNat, wr_p3] | ((with_reducible first | refine gd_bool ?_ ?_ | refine if_bool ?_ ?_ | refine qC_bool ?_ ?_ | refine piC_bool ?_ ?_ | refine zC_bool ?_ ?_ | refine zD_bool ?_ ?_ | refine yC_bool ?_ ?_) <;> intro hh) | clear hK)
  all_goals first
    | exact ⟨rfl, _, rfl⟩
end Go.Tb
end
