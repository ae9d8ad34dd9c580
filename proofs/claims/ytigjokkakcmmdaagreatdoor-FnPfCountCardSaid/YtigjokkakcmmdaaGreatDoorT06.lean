/-
  A part of the proof (my own): of the texts that the claim's last text rests on: parts Frame.
-/
import Derived.Test.YtigjokkakcmmdaaGreatDoorT05
set_option linter.unusedSimpArgs false
set_option linter.unusedVariables false
section
namespace Go.Tb
open Go
def sig (idx : List Nat) (n k : Nat) : Nat := if k < 100 then k else match idx[k - 100]? with
  | some j => 100 + j
  | none => 100 + n + (k - 100 - idx.length)
def rnO (σ : Nat → Nat) : AO → AO
  | .any => .any
  | .cells c T => .cells (c.map (rl σ)) T
  | .ro b c => .ro b (c.map (rl σ))
  | .obj o => .obj o
def setAll : List AO → List Nat → List AO → List AO
  | L, j :: js, m :: ms => setAll (L.set j m) js ms
  | L, _, _ => L
def fixL (σ : Nat → Nat) (L : List AO) (idx : List Nat) (M : List AO) : List AO := setAll L idx (M.map (rnO σ)) ++ (M.drop idx.length).map (rnO σ)
def AO.wf (n : Nat) : AO → Prop
  | .cells c _ => ∀ v ∈ c, WF n v
  | .ro _ c => ∀ v ∈ c, WF n v
  | _ => True
theorem rnO_wr (σ : Nat → Nat) (o : AO) : (rnO σ o).wr = o.wr := by cases o <;> rfl
theorem setAll_len : ∀ (L : List AO) (js : List Nat) (ms : List AO), (setAll L js ms).length = L.length
  | L, [], ms => by cases ms <;> rfl
  | L, _ :: _, [] => rfl
  | L, j :: js, m :: ms => by simp only [setAll]; rw [setAll_len, List.length_set]
theorem setAll_out : ∀ (L : List AO) (js : List Nat) (ms : List AO) (k : Nat), k ∉ js → (setAll L js ms)[k]? = L[k]?
  | L, [], ms, _, _ => by cases ms <;> rfl
  | L, _ :: _, [], _, _ => rfl
  | L, j :: js, m :: ms, k, h => by
    simp only [setAll]
    rw [setAll_out _ js ms k (fun e => h (List.mem_cons_of_mem _ e)), List.getElem?_set_ne]
    exact fun e => h (by simp [e])
theorem setAll_in : ∀ (L : List AO) (js : List Nat) (ms : List AO) (i k : Nat) (m : AO), js.Nodup → js[i]? = some k → ms[i]? = some m → k < L.length → (setAll L js ms)[k]? = some m
  | L, j :: js, m :: ms, 0, k, o, hn, h1, h2, hk => by
    simp at h1 h2; subst h1; subst h2
    simp only [setAll]
    rw [setAll_out _ _ _ _ (List.nodup_cons.1 hn).1]
    simp [hk]
  | L, j :: js, m :: ms, i + 1, k, o, hn, h1, h2, hk => by
    simp only [setAll]
    exact setAll_in _ js ms i k o (List.nodup_cons.1 hn).2 (by simpa using h1) (by simpa using h2) (by simpa using hk)
  | _, [], _, _, _, _, _, h1, _, _ => by simp at h1
  | _, _ :: _, [], _, _, _, _, _, h2, _ => by simp at h2
theorem WF.map {n m : Nat} {σ : Nat → Nat} {v : Value} (h : WF n v) (hσ : ∀ i, i < n → σ i < m) : WF m (rl σ v) := fun ρ ρ' e => by
  rw [rl_comp, rl_comp]
  exact h _ _ fun i hi => e _ (hσ i hi)
theorem WF.fix {v : Value} {n : Nat} {σ : Nat → Nat} (h : WF n v) (hσ : ∀ i, i < n → σ i = i) : rl σ v = v := by
  rw [h σ (fun i => i) hσ, rl_id]
section
variable {X : Cx}
theorem pad_get {L : List AO} {i : Nat} {o : AO} (h : (X.pad ++ L)[i]? = some o) : (i < 100 ∧ X.pad[i]? = some o ∧ o.wr = false) ∨ (100 ≤ i ∧ i < 100 + L.length ∧ L[i - 100]? = some o) := by
  have hP := X.len
  by_cases hi : i < 100
  · rw [List.getElem?_append_left (by omega)] at h; exact .inl ⟨hi, h, X.ro i o h⟩
  · rw [List.getElem?_append_right (by omega), hP] at h
    have := (List.getElem?_eq_some_iff.1 h).1
    exact .inr ⟨by omega, by omega, h⟩
theorem get_pad {L : List AO} {i : Nat} (hi : i < 100) : (X.pad ++ L)[i]? = X.pad[i]? := by rw [List.getElem?_append_left (by rw [X.len]; omega)]
theorem get_own (X : Cx) (L : List AO) (i : Nat) : (X.pad ++ L)[100 + i]? = L[i]? := by
  rw [List.getElem?_append_right (by rw [X.len]; omega), X.len, show 100 + i - 100 = i by omega]
theorem sim_congr {ρ ρ' : Nat → Nat} {L : List AO} {w : World} (hs : Sim X.ng ρ (X.pad ++ L) w) (he : ∀ i, i < (X.pad ++ L).length → ρ' i = ρ i) : Sim X.ng ρ' (X.pad ++ L) w := by
  have hlt : ∀ i (o : AO), (X.pad ++ L)[i]? = some o → ρ' i = ρ i := fun i o h => he i (List.getElem?_eq_some_iff.1 h).1
  have hm : ∀ c : List Value, (∀ v ∈ c, WF (X.pad ++ L).length v) → c.map (rl ρ') = c.map (rl ρ) := fun c hc => List.map_congr_left fun v hv => hc v hv _ _ he
  refine ⟨hs.ngl, fun g hg => by rw [he g (Nat.lt_of_lt_of_le hg hs.ngl), hs.glob g hg], fun i j o h hw hj e => ?_, fun i hi => by rw [he i hi]; exact hs.lt i hi, fun i c T h => ?_, fun i b c h => ?_, fun i o h => ?_⟩
  · rw [hlt i o h, he j hj] at e; exact hs.inj i j o h hw hj e
  · obtain ⟨h1, h2⟩ := hs.cells i c T h
    rw [hlt i _ h, hm c h2]; exact ⟨h1, h2⟩
  · obtain ⟨h1, h2⟩ := hs.ro i b c h
    refine ⟨fun j v hv => ?_, h2⟩
    rw [hlt i _ h, h2 v (List.mem_of_getElem? hv) ρ' ρ he]; exact h1 j v hv
  · rw [hlt i _ h]; exact hs.obj i o h
theorem CallQ.of_m {f : FuncId} {vs : List Value} {L : List AO} {v : Value} {K : Value → Prop} (h : CallM X f vs L fun u M => u = v ∧ M = L) (hv : WF (100 + L.length) v) (hk : K v) : CallQ X f vs L K :=
  ⟨h.1, v, hk, by rw [full_len]; exact hv, fun ρ w hs hw => (h.2 ρ w hs hw).mono fun e w' ⟨ρ', u, M, he, ⟨hu, hM⟩, _, s, x⟩ => by
    subst hu; subst hM
    refine ⟨by rw [he, hv ρ' ρ fun i hi => x.agree i (by rw [full_len]; exact hi)], sim_congr s fun i hi => (x.agree i hi).symm, ?_⟩
    exact ⟨x.os, x.tape, x.output, x.size, Nat.le_refl _, fun _ _ => rfl, fun i o h h1 _ => by have := (List.getElem?_eq_some_iff.1 h1).1; omega, x.keep, fun _ _ h _ => h⟩⟩
theorem CallM.shift {f : FuncId} {vs : List Value} {L : List AO} {K : Value → List AO → Prop} (h : CallM X f vs L fun v M => ∃ u M', VS X L.length ([(0, v)], M) ([(0, u)], M') ∧ K u M') : CallM X f vs L K :=
  ⟨h.1, fun ρ w hs hw => (h.2 ρ w hs hw).mono fun e w' ⟨ρ', v, M, he, ⟨u, M', hv, hk⟩, hwf, s, x⟩ => by
    obtain ⟨ρ2, s2, f2, x2⟩ := hv 1 [] ρ L w ρ' ⟨#[rl ρ' v], []⟩ w' rfl s ⟨rfl, rfl, fun t y hy => by
      simp only [Fr.get] at hy
      split at hy
      · rename_i e; subst e; simp only [Option.some.injEq] at hy; subst hy; exact ⟨rfl, hwf⟩
      · cases hy⟩ x
    obtain ⟨h1, h2⟩ := f2.tmps 0 u (by simp [Fr.get])
    simp only [Option.some.injEq, List.getElem?_toArray, List.getElem?_cons_zero] at h1
    exact ⟨ρ2, u, M', by rw [he, h1], hk, h2, s2, x2⟩⟩
theorem CallM.frame {f : FuncId} {vs0 : List Value} {L0 L : List AO} {K0 K : Value → List AO → Prop} (idx : List Nat) (h : CallM X f vs0 L0 K0) (hlen : idx.length = L0.length) (hin : ∀ j ∈ idx, j < L.length) (hnd : idx.Nodup)
    (hL : ∀ (i : Nat) (o : AO), L0[i]? = some o → ∃ j, idx[i]? = some j ∧ L[j]? = some (rnO (sig idx L.length) o)) (hv0 : ∀ v ∈ vs0, WF (100 + L0.length) v) (hw0 : ∀ o ∈ L0, o.wf (100 + L0.length))
    (hk : ∀ v M, L0.length ≤ M.length → K0 v M → (∀ o ∈ M.drop idx.length, o.wr = true) ∧ K (rl (sig idx L.length) v) (fixL (sig idx L.length) L idx M)) : CallM X f (vs0.map (rl (sig idx L.length))) L K := by
  generalize hσ : sig idx L.length = σ at *
  have hP := X.len
  have σlo : ∀ k, k < 100 → σ k = k := fun k hk => by rw [← hσ]; simp [sig, hk]
  have σin : ∀ i j, idx[i]? = some j → σ (100 + i) = 100 + j := fun i j hj => by
    rw [← hσ]; simp only [sig]; rw [if_neg (by omega), show 100 + i - 100 = i by omega, hj]
  have σnew : ∀ i, idx.length ≤ i → σ (100 + i) = 100 + L.length + (i - idx.length) := fun i hi => by
    rw [← hσ]; simp only [sig]; rw [if_neg (by omega), show 100 + i - 100 = i by omega, List.getElem?_eq_none hi]
  have σlt : ∀ k, k < 100 + L0.length → σ k < 100 + L.length := fun k hk => by
    by_cases h1 : k < 100
    · rw [σlo k h1]; omega
    · have h2 : k - 100 < idx.length := by omega
      have := σin (k - 100) idx[k - 100] (List.getElem?_eq_getElem h2)
      rw [show 100 + (k - 100) = k by omega] at this
      rw [this]
      have := hin _ (List.getElem_mem h2)
      omega
  have σinj : ∀ i j, i < 100 + L0.length → j < 100 + L0.length → σ i = σ j → i = j := fun i j hi hj e => by
    by_cases h1 : i < 100
    · by_cases h2 : j < 100
      · rw [σlo i h1, σlo j h2] at e; exact e
      · have h3 : j - 100 < idx.length := by omega
        have := σin (j - 100) _ (List.getElem?_eq_getElem h3)
        rw [show 100 + (j - 100) = j by omega] at this
        rw [σlo i h1, this] at e; omega
    · have h3 : i - 100 < idx.length := by omega
      have e1 := σin (i - 100) _ (List.getElem?_eq_getElem h3)
      rw [show 100 + (i - 100) = i by omega] at e1
      by_cases h2 : j < 100
      · rw [σlo j h2, e1] at e; omega
      · have h4 : j - 100 < idx.length := by omega
        have e2 := σin (j - 100) _ (List.getElem?_eq_getElem h4)
        rw [show 100 + (j - 100) = j by omega] at e2
        rw [e1, e2] at e
        have := (List.getElem_inj hnd).1 (show idx[i - 100] = idx[j - 100] by omega)
        omega
  have hblk : ∀ (i : Nat) (o : AO), (X.pad ++ L0)[i]? = some o → 100 ≤ i → (X.pad ++ L)[σ i]? = some (rnO σ o) := fun i o h hi => by
    rcases pad_get h with ⟨h1, _⟩ | ⟨_, _, h1⟩
    · omega
    · obtain ⟨j, hj, hj'⟩ := hL _ o h1
      have := σin _ j hj
      rw [show 100 + (i - 100) = i by omega] at this
      rw [this, get_own]; exact hj'
  refine ⟨h.1, fun ρ w hs hw => ?_⟩
  have hsim0 : Sim X.ng (fun k => ρ (σ k)) (X.pad ++ L0) w := by
    refine ⟨by rw [full_len]; have := X.ngl; omega, fun g hg => ?_, fun i j o h hw hj e => ?_, fun i hi => ?_, fun i c T h => ?_, fun i b c h => ?_, fun i o h => ?_⟩
    · show ρ (σ g) = g
      rw [σlo g (by have := X.ngl; omega), hs.glob g hg]
    · rcases pad_get h with ⟨_, _, h2⟩ | ⟨h1, h2, h3⟩
      · rw [h2] at hw; cases hw
      · rw [full_len] at hj
        exact σinj i j h2 hj (hs.inj (σ i) (σ j) _ (hblk i o h h1) (by rw [rnO_wr]; exact hw) (by rw [full_len]; exact σlt j hj) e)
    · rw [full_len] at hi; exact hs.lt (σ i) (by rw [full_len]; exact σlt i hi)
    · rcases pad_get h with ⟨_, _, h2⟩ | ⟨h1, h2, h3⟩
      · cases h2
      · obtain ⟨g1, g2⟩ := hs.cells (σ i) _ T (hblk i _ h h1)
        refine ⟨?_, by rw [full_len]; exact hw0 _ (List.mem_of_getElem? h3)⟩
        rw [g1, List.map_map]
        congr 3
        exact List.map_congr_left fun v _ => rl_comp ρ σ v
    · rcases pad_get h with ⟨h1, h2, _⟩ | ⟨h1, h2, h3⟩
      · obtain ⟨g1, g2⟩ := hs.ro i b c (by rw [get_pad h1]; exact h2)
        refine ⟨fun j v hv => ?_, fun v hv => (X.wf i b c h2 v hv).mono (by rw [full_len]; omega)⟩
        show w.cell? ⟨ρ (σ i), b + j, none⟩ = _
        rw [σlo i h1, g1 j v hv]
        rw [X.wf i b c h2 v (List.mem_of_getElem? hv) ρ (fun k => ρ (σ k)) fun k hk => by rw [σlo k hk]]
      · obtain ⟨g1, g2⟩ := hs.ro (σ i) b _ (hblk i _ h h1)
        refine ⟨fun j v hv => ?_, by rw [full_len]; exact hw0 _ (List.mem_of_getElem? h3)⟩
        have := g1 j (rl σ v) (by simp [hv])
        rw [rl_comp] at this; exact this
    · rcases pad_get h with ⟨h1, h2, _⟩ | ⟨h1, h2, h3⟩
      · show w.heap[ρ (σ i)]? = some o
        rw [σlo i h1]
        exact hs.obj i o (by rw [get_pad h1]; exact h2)
      · exact hs.obj (σ i) o (hblk i _ h h1)
  have hargs : (vs0.map (rl σ)).map (rl ρ) = vs0.map (rl fun k => ρ (σ k)) := by
    rw [List.map_map]; exact List.map_congr_left fun v _ => rl_comp ρ σ v
  rw [hargs]
  refine (h.2 _ w hsim0 (by rw [full_len]; exact hv0)).mono ?_
  rintro e w' ⟨ρ1, v, M, he, hk0, hwf, s, x⟩
  have hML : L0.length ≤ M.length := by have := x.len; simp only [full_len] at this; omega
  obtain ⟨hnew, hkk⟩ := hk v M hML hk0
  rw [full_len] at hwf
  have hag : ∀ i, i < 100 + L0.length → ρ1 i = ρ (σ i) := fun i hi => x.agree i (by rw [full_len]; exact hi)
  generalize hρ2 : (fun k => if k < 100 + L.length then ρ k else ρ1 (k - (100 + L.length) + (100 + L0.length))) = ρ2
  have r2lo : ∀ k, k < 100 + L.length → ρ2 k = ρ k := fun k hk => by rw [← hρ2]; simp [hk]
  have r2hi : ∀ k, ρ2 (100 + L.length + k) = ρ1 (100 + L0.length + k) := fun k => by
    rw [← hρ2]; simp only; rw [if_neg (by omega)]; congr 1; omega
  have r2σ : ∀ i, ρ2 (σ i) = ρ1 i ∨ 100 + M.length ≤ i := fun i => by
    by_cases hi : i < 100 + L0.length
    · left; rw [r2lo _ (σlt i hi), hag i hi]
    · left
      have := σnew (i - 100) (by omega)
      rw [show 100 + (i - 100) = i by omega] at this
      rw [this, r2hi]; congr 1; omega
  have r2σ' : ∀ i, ρ2 (σ i) = ρ1 i := fun i => by
    by_cases hi : i < 100 + L0.length
    · rw [r2lo _ (σlt i hi), hag i hi]
    · have := σnew (i - 100) (by omega)
      rw [show 100 + (i - 100) = i by omega] at this
      rw [this, r2hi]; congr 1; omega
  have σltM : ∀ i, i < 100 + M.length → σ i < 100 + (L.length + (M.length - L0.length)) := fun i hi => by
    by_cases h1 : i < 100 + L0.length
    · have := σlt i h1; omega
    · have := σnew (i - 100) (by omega)
      rw [show 100 + (i - 100) = i by omega] at this
      omega
  have rlσ : ∀ u, rl ρ2 (rl σ u) = rl ρ1 u := fun u => by
    rw [rl_comp]; congr 1; funext i; exact r2σ' i
  generalize hL2 : fixL σ L idx M = L2 at *
  have h2len : L2.length = L.length + (M.length - L0.length) := by
    rw [← hL2]; simp only [fixL, List.length_append, setAll_len, List.length_map, List.length_drop]; omega
  have g2in : ∀ i o, 100 ≤ i → (X.pad ++ M)[i]? = some o → (X.pad ++ L2)[σ i]? = some (rnO σ o) := fun i o hi h => by
    rcases pad_get h with ⟨h1, _⟩ | ⟨_, h1, h3⟩
    · omega
    · by_cases h4 : i - 100 < idx.length
      · have e1 := σin (i - 100) _ (List.getElem?_eq_getElem h4)
        rw [show 100 + (i - 100) = i by omega] at e1
        rw [e1, get_own, ← hL2, fixL, List.getElem?_append_left (by rw [setAll_len]; exact hin _ (List.getElem_mem h4))]
        exact setAll_in _ _ _ (i - 100) _ _ hnd (List.getElem?_eq_getElem h4) (by simp [h3]) (hin _ (List.getElem_mem h4))
      · have e1 := σnew (i - 100) (by omega)
        rw [show 100 + (i - 100) = i by omega] at e1
        rw [e1, Nat.add_assoc, get_own, ← hL2, fixL, List.getElem?_append_right (by rw [setAll_len]; omega), setAll_len, List.getElem?_map, List.getElem?_drop, show idx.length + (L.length + (i - 100 - idx.length) - L.length) = i - 100 by omega, h3]; rfl
  have g2U : ∀ k, k < L.length → k ∉ idx → (X.pad ++ L2)[100 + k]? = L[k]? := fun k hk hn => by
    rw [get_own, ← hL2, fixL, List.getElem?_append_left (by rw [setAll_len]; exact hk), setAll_out _ _ _ _ hn]
  have who : ∀ k o, (X.pad ++ L2)[k]? = some o → (k < 100 ∧ X.pad[k]? = some o) ∨ (∃ i p, 100 ≤ i ∧ (X.pad ++ M)[i]? = some p ∧ k = σ i ∧ o = rnO σ p) ∨ (∃ j, k = 100 + j ∧ j < L.length ∧ j ∉ idx ∧ L[j]? = some o) := fun k o h => by
    rcases pad_get h with ⟨h1, h2, _⟩ | ⟨h1, h2, h3⟩
    · exact .inl ⟨h1, h2⟩
    · right
      by_cases hk : k - 100 < L.length
      · by_cases hm : k - 100 ∈ idx
        · left
          obtain ⟨i, hi, e⟩ := List.getElem_of_mem hm
          have hiM : i < M.length := by omega
          have e1 := σin i (k - 100) (by rw [List.getElem?_eq_getElem hi, e])
          have hp : (X.pad ++ M)[100 + i]? = some M[i] := by rw [get_own]; exact List.getElem?_eq_getElem hiM
          refine ⟨100 + i, M[i], by omega, hp, by omega, ?_⟩
          have := g2in _ _ (by omega) hp
          rw [e1, show 100 + (k - 100) = k by omega, h] at this
          exact Option.some.inj this
        · right
          refine ⟨k - 100, by omega, hk, hm, ?_⟩
          rw [← g2U _ hk hm, show 100 + (k - 100) = k by omega, h]
      · left
        have hiM : L0.length + (k - 100 - L.length) < M.length := by omega
        have e1 := σnew (L0.length + (k - 100 - L.length)) (by omega)
        have hp : (X.pad ++ M)[100 + (L0.length + (k - 100 - L.length))]? = some M[L0.length + (k - 100 - L.length)] := by rw [get_own]; exact List.getElem?_eq_getElem hiM
        have e2 : σ (100 + (L0.length + (k - 100 - L.length))) = k := by rw [e1]; omega
        refine ⟨_, _, by omega, hp, e2.symm, ?_⟩
        have := g2in _ _ (by omega) hp
        rw [e2, h] at this
        exact Option.some.inj this
  have hwr0 : ∀ i o, 100 ≤ i → i < 100 + L0.length → (X.pad ++ M)[i]? = some o → o.wr = true → ∃ p, (X.pad ++ L)[σ i]? = some p ∧ p.wr = true := fun i o hi hi' h hw => by
    have hi0 : i < (X.pad ++ L0).length := by rw [full_len]; exact hi'
    have hp : (X.pad ++ L0)[i]? = some (X.pad ++ L0)[i] := List.getElem?_eq_getElem hi0
    refine ⟨_, hblk i _ hp hi, ?_⟩
    rw [rnO_wr]
    cases hc : (X.pad ++ L0)[i].wr with
    | true => rfl
    | false =>
      have := x.stay i _ hp hc
      rw [h] at this; simp only [Option.some.injEq] at this
      rw [this, hc] at hw; cases hw
  have hnewM : ∀ i o, 100 + L0.length ≤ i → (X.pad ++ M)[i]? = some o → o.wr = true ∧ w.heap.size ≤ ρ1 i := fun i o hi h => by
    rcases pad_get h with ⟨h1, _⟩ | ⟨h1, h2, h3⟩
    · omega
    · have : o.wr = true := hnew o (by
        refine List.mem_of_getElem? (i := i - 100 - idx.length) ?_
        rw [List.getElem?_drop, show idx.length + (i - 100 - idx.length) = i - 100 by omega, h3])
      exact ⟨this, x.new i o (by rw [full_len]; exact hi) h this⟩
  have hU : ∀ j, j < L.length → j ∉ idx → w'.heap[ρ (100 + j)]? = w.heap[ρ (100 + j)]? := fun j hj hn => by
    refine x.keep _ (hs.lt _ (by rw [full_len]; omega)) fun i o h hw e => ?_
    rcases pad_get h with ⟨_, _, h2⟩ | ⟨h1, h2, h3⟩
    · rw [h2] at hw; cases hw
    · have := hs.inj (σ i) (100 + j) _ (hblk i o h h1) (by rw [rnO_wr]; exact hw) (by rw [full_len]; omega) e
      obtain ⟨q, hq, _⟩ := hL _ o h3
      have e1 := σin _ q hq
      rw [show 100 + (i - 100) = i by omega] at e1
      rw [e1] at this
      exact hn (by rw [← show q = j by omega]; exact List.mem_of_getElem? hq)
  have hsz := x.size
  have hwL : ∀ (j : Nat) (c : List Value) (T : TypeId), L[j]? = some (.cells c T) → ∀ v ∈ c, WF (100 + L.length) v := fun j c T h v hv => by
    have := (hs.cells (100 + j) c T (by rw [get_own]; exact h)).2 v hv
    rwa [full_len] at this
  have hwR : ∀ (j b : Nat) (c : List Value), L[j]? = some (.ro b c) → ∀ v ∈ c, WF (100 + L.length) v := fun j b c h v hv => by
    have := (hs.ro (100 + j) b c (by rw [get_own]; exact h)).2 v hv
    rwa [full_len] at this
  refine ⟨ρ2, rl σ v, L2, by rw [he, rlσ], hkk, ?_, ?_, ?_⟩
  · rw [full_len, h2len]; exact hwf.map σltM
  · refine ⟨by rw [full_len]; have := X.ngl; omega, fun g hg => ?_, ?_, fun k hk => ?_, fun k c T h => ?_, fun k b c h => ?_, fun k o h => ?_⟩
    · rw [r2lo g (by have := X.ngl; omega), hs.glob g hg]
    · intro i j o h hw hj e
      have hjs : ∃ p, (X.pad ++ L2)[j]? = some p := ⟨_, List.getElem?_eq_getElem hj⟩
      obtain ⟨p, hp⟩ := hjs
      rcases who i o h with ⟨_, h1⟩ | ⟨i', o', hi1, hi2, rfl, rfl⟩ | ⟨i', rfl, hi1, hi2, hi3⟩
      · have := X.ro i o h1; rw [this] at hw; cases hw
      · rw [rnO_wr] at hw
        rw [r2σ'] at e
        have hi3 : i' < 100 + M.length := by rcases pad_get hi2 with ⟨_, _⟩ | ⟨_, h, _⟩ <;> omega
        rcases who j p hp with ⟨hj1, _⟩ | ⟨j', p', hj1, hj2, rfl, _⟩ | ⟨j', rfl, hj1, hj2, hj3⟩
        · rw [r2lo j (by omega), ← σlo j hj1, ← hag j (by omega)] at e
          have := s.inj i' j o' hi2 hw (by rw [full_len]; omega) e
          omega
        · rw [r2σ'] at e
          rw [s.inj i' j' o' hi2 hw (by rcases pad_get hj2 with ⟨_, _⟩ | ⟨_, h, _⟩ <;> rw [full_len] <;> omega) e]
        · rw [r2lo _ (by omega)] at e
          by_cases h5 : i' < 100 + L0.length
          · obtain ⟨q, hq1, hq2⟩ := hwr0 i' o' hi1 h5 hi2 hw
            rw [hag i' h5] at e
            exact hs.inj (σ i') (100 + j') q hq1 hq2 (by rw [full_len]; omega) e
          · have h6 := (hnewM i' o' (by omega) hi2).2
            have h7 := hs.lt (100 + j') (by rw [full_len]; omega)
            omega
      · rw [r2lo _ (by omega)] at e
        have hiL : (X.pad ++ L)[100 + i']? = some o := by rw [get_own]; exact hi3
        rcases who j p hp with ⟨hj1, _⟩ | ⟨j', p', hj1, hj2, rfl, _⟩ | ⟨j', rfl, hj1, hj2, hj3⟩
        · rw [r2lo j (by omega)] at e
          exact hs.inj _ j o hiL hw (by rw [full_len]; omega) e
        · rw [r2σ'] at e
          by_cases h5 : j' < 100 + L0.length
          · rw [hag j' h5] at e
            have := hs.inj _ (σ j') o hiL hw (by rw [full_len]; exact σlt j' h5) e
            exact this
          · have h6 := (hnewM j' p' (by omega) hj2).2
            have h7 := hs.lt (100 + i') (by rw [full_len]; omega)
            omega
        · rw [r2lo _ (by omega)] at e
          exact hs.inj _ (100 + j') o hiL hw (by rw [full_len]; omega) e
    · rw [full_len, h2len] at hk
      by_cases h1 : k < 100 + L.length
      · rw [r2lo k h1]; exact Nat.lt_of_lt_of_le (hs.lt k (by rw [full_len]; exact h1)) hsz
      · have := r2hi (k - (100 + L.length))
        rw [show 100 + L.length + (k - (100 + L.length)) = k by omega] at this
        rw [this]; exact s.lt _ (by rw [full_len]; omega)
    · rw [full_len, h2len]
      rcases who k _ h with ⟨_, h1⟩ | ⟨i, p, hi1, hi2, rfl, hp⟩ | ⟨j, rfl, hj1, hj2, hj3⟩
      · have := X.ro k _ h1; cases this
      · cases p with
        | cells c' T' =>
          simp only [rnO, AO.cells.injEq] at hp
          obtain ⟨rfl, rfl⟩ := hp
          obtain ⟨g1, g2⟩ := s.cells i c' _ hi2
          rw [full_len] at g2
          rw [r2σ', g1, List.map_map]
          refine ⟨?_, fun u hu => ?_⟩
          · congr 3
            exact List.map_congr_left fun u _ => (rlσ u).symm
          · obtain ⟨u', hu', rfl⟩ := List.mem_map.1 hu
            exact (g2 u' hu').map σltM
        | _ => simp [rnO] at hp
      · rw [r2lo _ (by omega), hU j hj1 hj2]
        obtain ⟨g1, g2⟩ := hs.cells (100 + j) c T (by rw [get_own]; exact hj3)
        have hwc := hwL j c T hj3
        refine ⟨?_, fun u hu => (hwc u hu).mono (by omega)⟩
        rw [g1]; congr 3
        exact List.map_congr_left fun u hu => hwc u hu _ _ fun i hi => (r2lo i hi).symm
    · rw [full_len, h2len]
      rcases who k _ h with ⟨h0, h1⟩ | ⟨i, p, hi1, hi2, rfl, hp⟩ | ⟨j, rfl, hj1, hj2, hj3⟩
      · have hwc := X.wf k b c h1
        refine ⟨fun j u hu => ?_, fun u hu => (hwc u hu).mono (by omega)⟩
        have := (s.ro k b c (by rw [get_pad h0]; exact h1)).1 j u hu
        rw [r2lo k (by omega), ← σlo k h0, ← hag k (by omega), this]
        congr 1
        exact hwc u (List.mem_of_getElem? hu) _ _ fun i hi => by rw [r2lo i (by omega), hag i (by omega), σlo i hi]
      · cases p with
        | ro b' c' =>
          simp only [rnO, AO.ro.injEq] at hp
          obtain ⟨rfl, rfl⟩ := hp
          obtain ⟨g1, g2⟩ := s.ro i _ c' hi2
          rw [full_len] at g2
          refine ⟨fun j u hu => ?_, fun u hu => ?_⟩
          · rw [List.getElem?_map] at hu
            cases hc : c'[j]? with
            | none => simp [hc] at hu
            | some u' =>
              simp [hc] at hu; subst hu
              rw [r2σ', rlσ]; exact g1 j u' hc
          · obtain ⟨u', hu', rfl⟩ := List.mem_map.1 hu
            exact (g2 u' hu').map σltM
        | _ => simp [rnO] at hp
      · have hwc := hwR j b c hj3
        refine ⟨fun m u hu => ?_, fun u hu => (hwc u hu).mono (by omega)⟩
        rw [r2lo _ (by omega), World.cell?_of_block (w := w) (a := ⟨ρ (100 + j), b + m, none⟩) (hU j hj1 hj2)]
        rw [(hs.ro (100 + j) b c (by rw [get_own]; exact hj3)).1 m u hu]
        congr 1
        exact hwc u (List.mem_of_getElem? hu) _ _ fun i hi => (r2lo i hi).symm
    · rcases who k _ h with ⟨h0, h1⟩ | ⟨i, p, hi1, hi2, rfl, hp⟩ | ⟨j, rfl, hj1, hj2, hj3⟩
      · have := X.ro k _ h1; cases this
      · cases p with
        | obj o' =>
          simp only [rnO, AO.obj.injEq] at hp
          subst hp
          rw [r2σ']; exact s.obj i o hi2
        | _ => simp [rnO] at hp
      · rw [r2lo _ (by omega), hU j hj1 hj2]
        exact hs.obj (100 + j) o (by rw [get_own]; exact hj3)
  · refine ⟨x.os, x.tape, x.output, hsz, by simp only [full_len, h2len]; omega, fun i hi => r2lo i (by rwa [full_len] at hi), fun k o h1 h2 h3 => ?_, fun j hj hn => x.keep j hj fun i o h hw e => ?_, fun k o h1 h2 => ?_⟩
    · rw [full_len] at h1
      rcases who k o h2 with ⟨h0, _⟩ | ⟨i, p, hi1, hi2, rfl, hp⟩ | ⟨j, rfl, hj1, _⟩
      · omega
      · rw [r2σ']
        by_cases h5 : i < 100 + L0.length
        · have := σlt i h5; omega
        · exact (hnewM i p (by omega) hi2).2
      · omega
    · rcases pad_get h with ⟨_, _, h2⟩ | ⟨h1, h2, h3⟩
      · rw [h2] at hw; cases hw
      · exact hn (σ i) _ (hblk i o h h1) (by rw [rnO_wr]; exact hw) e
    · rcases pad_get h1 with ⟨h3, h4, _⟩ | ⟨h3, h4, h5⟩
      · rw [get_pad h3]; exact h4
      · by_cases hm : k - 100 ∈ idx
        · obtain ⟨i, hi, e⟩ := List.getElem_of_mem hm
          have hi0 : i < L0.length := by omega
          obtain ⟨j, hj, hj'⟩ := hL i _ (List.getElem?_eq_getElem hi0)
          rw [List.getElem?_eq_getElem hi, e, Option.some.injEq] at hj
          rw [← hj, h5, Option.some.injEq] at hj'
          have hp : (X.pad ++ L0)[100 + i]? = some L0[i] := by rw [get_own]; exact List.getElem?_eq_getElem hi0
          have hst := x.stay _ _ hp (by rw [← rnO_wr σ, ← hj']; exact h2)
          have := g2in _ _ (by omega) hst
          rw [σin i (k - 100) (by rw [List.getElem?_eq_getElem hi, e]), show 100 + (k - 100) = k by omega] at this
          rw [this, hj']
        · rw [← show 100 + (k - 100) = k by omega, g2U _ (by omega) hm]; exact h5
end
end Go.Tb
end
