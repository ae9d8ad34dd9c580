/-
  A part of the proof (my own): of the texts that the claim's last text rests on: parts Frame, Types, Seat.
-/
import Derived.Test.YtigjokkakcmmdaaGreatDoorChecked
import Derived.Test.YtigjokkakcmmdaaGreatDoorT06
import Derived.Test.YtigjokkakcmmdaaGreatDoorT05
set_option linter.unusedSimpArgs false
set_option linter.unusedVariables false
section
namespace Go.Tb
open Go
def sig (idx : List Nat) (n k : Nat) : Nat := if k < 100 then k else match idx[k - 100]? with
  | some j => 100 + j
  | none => 100 + n + (k - 100 - idx.length)
def rnO (σ : Nat → Nat) : AO → AO
  | .any => .any
  | .cells c T => .cells (c.map (rl σ)) T
  | .ro b c => .ro b (c.map (rl σ))
  | .obj o => .obj o
def setAll : List AO → List Nat → List AO → List AO
  | L, j :: js, m :: ms => setAll (L.set j m) js ms
  | L, _, _ => L
def fixL (σ : Nat → Nat) (L : List AO) (idx : List Nat) (M : List AO) : List AO := setAll L idx (M.map (rnO σ)) ++ (M.drop idx.length).map (rnO σ)
def AO.wf (n : Nat) : AO → Prop
  | .cells c _ => ∀ v ∈ c, WF n v
  | .ro _ c => ∀ v ∈ c, WF n v
  | _ => True
theorem rnO_wr (σ : Nat → Nat) (o : AO) : (rnO σ o).wr = o.wr := by cases o <;> rfl
theorem setAll_len : ∀ (L : List AO) (js : List Nat) (ms : List AO), (setAll L js ms).length = L.length
  | L, [], ms => by cases ms <;> rfl
  | L, _ :: _, [] => rfl
  | L, j :: js, m :: ms => by simp only [setAll]; rw [setAll_len, List.length_set]
theorem setAll_out : ∀ (L : List AO) (js : List Nat) (ms : List AO) (k : Nat), k ∉ js → (setAll L js ms)[k]? = L[k]?
  | L, [], ms, _, _ => by cases ms <;> rfl
  | L, _ :: _, [], _, _ => rfl
  | L, j :: js, m :: ms, k, h => by
    simp only [setAll]
    rw [setAll_out _ js ms k (fun e => h (List.mem_cons_of_mem _ e)), List.getElem?_set_ne]
    exact fun e => h (by simp [e])
theorem setAll_in : ∀ (L : List AO) (js : List Nat) (ms : List AO) (i k : Nat) (m : AO), js.Nodup → js[i]? = some k → ms[i]? = some m → k < L.length → (setAll L js ms)[k]? = some m
  | L, j :: js, m :: ms, 0, k, o, hn, h1, h2, hk => by
    simp at h1 h2; subst h1; subst h2
    simp only [setAll]
    rw [setAll_out _ _ _ _ (List.nodup_cons.1 hn).1]
    simp [hk]
  | L, j :: js, m :: ms, i + 1, k, o, hn, h1, h2, hk => by
    simp only [setAll]
    exact setAll_in _ js ms i k o (List.nodup_cons.1 hn).2 (by simpa using h1) (by simpa using h2) (by simpa using hk)
  | _, [], _, _, _, _, _, h1, _, _ => by simp at h1
  | _, _ :: _, [], _, _, _, _, _, h2, _ => by simp at h2
theorem WF.map {n m : Nat} {σ : Nat → Nat} {v : Value} (h : WF n v) (hσ : ∀ i, i < n → σ i < m) : WF m (rl σ v) := fun ρ ρ' e => by
  rw [rl_comp, rl_comp]
  exact h _ _ fun i hi => e _ (hσ i hi)
theorem WF.fix {v : Value} {n : Nat} {σ : Nat → Nat} (h : WF n v) (hσ : ∀ i, i < n → σ i = i) : rl σ v = v := by
  rw [h σ (fun i => i) hσ, rl_id]
section
variable {X : Cx}
theorem pad_get {L : List AO} {i : Nat} {o : AO} (h : (X.pad ++ L)[i]? = some o) : (i < 100 ∧ X.pad[i]? = some o ∧ o.wr = false) ∨ (100 ≤ i ∧ i < 100 + L.length ∧ L[i - 100]? = some o) := by
  have hP := X.len
  by_cases hi : i < 100
  · rw [List.getElem?_append_left (by omega)] at h; exact .inl ⟨hi, h, X.ro i o h⟩
  · rw [List.getElem?_append_right (by omega), hP] at h
    have := (List.getElem?_eq_some_iff.1 h).1
    exact .inr ⟨by omega, by omega, h⟩
theorem get_pad {L : List AO} {i : Nat} (hi : i < 100) : (X.pad ++ L)[i]? = X.pad[i]? := by rw [List.getElem?_append_left (by rw [X.len]; omega)]
theorem get_own (X : Cx) (L : List AO) (i : Nat) : (X.pad ++ L)[100 + i]? = L[i]? := by
  rw [List.getElem?_append_right (by rw [X.len]; omega), X.len, show 100 + i - 100 = i by omega]
theorem sim_congr {ρ ρ' : Nat → Nat} {L : List AO} {w : World} (hs : Sim X.ng ρ (X.pad ++ L) w) (he : ∀ i, i < (X.pad ++ L).length → ρ' i = ρ i) : Sim X.ng ρ' (X.pad ++ L) w := by
  have hlt : ∀ i (o : AO), (X.pad ++ L)[i]? = some o → ρ' i = ρ i := fun i o h => he i (List.getElem?_eq_some_iff.1 h).1
  have hm : ∀ c : List Value, (∀ v ∈ c, WF (X.pad ++ L).length v) → c.map (rl ρ') = c.map (rl ρ) := fun c hc => List.map_congr_left fun v hv => hc v hv _ _ he
  refine ⟨hs.ngl, fun g hg => by rw [he g (Nat.lt_of_lt_of_le hg hs.ngl), hs.glob g hg], fun i j o h hw hj e => ?_, fun i hi => by rw [he i hi]; exact hs.lt i hi, fun i c T h => ?_, fun i b c h => ?_, fun i o h => ?_⟩
  · rw [hlt i o h, he j hj] at e; exact hs.inj i j o h hw hj e
  · obtain ⟨h1, h2⟩ := hs.cells i c T h
    rw [hlt i _ h, hm c h2]; exact ⟨h1, h2⟩
  · obtain ⟨h1, h2⟩ := hs.ro i b c h
    refine ⟨fun j v hv => ?_, h2⟩
    rw [hlt i _ h, h2 v (List.mem_of_getElem? hv) ρ' ρ he]; exact h1 j v hv
  · rw [hlt i _ h]; exact hs.obj i o h
theorem CallQ.of_m {f : FuncId} {vs : List Value} {L : List AO} {v : Value} {K : Value → Prop} (h : CallM X f vs L fun u M => u = v ∧ M = L) (hv : WF (100 + L.length) v) (hk : K v) : CallQ X f vs L K :=
  ⟨h.1, v, hk, by rw [full_len]; exact hv, fun ρ w hs hw => (h.2 ρ w hs hw).mono fun e w' ⟨ρ', u, M, he, ⟨hu, hM⟩, _, s, x⟩ => by
    subst hu; subst hM
    refine ⟨by rw [he, hv ρ' ρ fun i hi => x.agree i (by rw [full_len]; exact hi)], sim_congr s fun i hi => (x.agree i hi).symm, ?_⟩
    exact ⟨x.os, x.tape, x.output, x.size, Nat.le_refl _, fun _ _ => rfl, fun i o h h1 _ => by have := (List.getElem?_eq_some_iff.1 h1).1; omega, x.keep, fun _ _ h _ => h⟩⟩
theorem CallM.shift {f : FuncId} {vs : List Value} {L : List AO} {K : Value → List AO → Prop} (h : CallM X f vs L fun v M => ∃ u M', VS X L.length ([(0, v)], M) ([(0, u)], M') ∧ K u M') : CallM X f vs L K :=
  ⟨h.1, fun ρ w hs hw => (h.2 ρ w hs hw).mono fun e w' ⟨ρ', v, M, he, ⟨u, M', hv, hk⟩, hwf, s, x⟩ => by
    obtain ⟨ρ2, s2, f2, x2⟩ := hv 1 [] ρ L w ρ' ⟨#[rl ρ' v], []⟩ w' rfl s ⟨rfl, rfl, fun t y hy => by
      simp only [Fr.get] at hy
      split at hy
      · rename_i e; subst e; simp only [Option.some.injEq] at hy; subst hy; exact ⟨rfl, hwf⟩
      · cases hy⟩ x
    obtain ⟨h1, h2⟩ := f2.tmps 0 u (by simp [Fr.get])
    simp only [Option.some.injEq, List.getElem?_toArray, List.getElem?_cons_zero] at h1
    exact ⟨ρ2, u, M', by rw [he, h1], hk, h2, s2, x2⟩⟩
theorem CallM.frame {f : FuncId} {vs0 : List Value} {L0 L : List AO} {K0 K : Value → List AO → Prop} (idx : List Nat) (h : CallM X f vs0 L0 K0) (hlen : idx.length = L0.length) (hin : ∀ j ∈ idx, j < L.length) (hnd : idx.Nodup)
    (hL : ∀ (i : Nat) (o : AO), L0[i]? = some o → ∃ j, idx[i]? = some j ∧ L[j]? = some (rnO (sig idx L.length) o)) (hv0 : ∀ v ∈ vs0, WF (100 + L0.length) v) (hw0 : ∀ o ∈ L0, o.wf (100 + L0.length))
    (hk : ∀ v M, L0.length ≤ M.length → K0 v M → (∀ o ∈ M.drop idx.length, o.wr = true) ∧ K (rl (sig idx L.length) v) (fixL (sig idx L.length) L idx M)) : CallM X f (vs0.map (rl (sig idx L.length))) L K := by
  generalize hσ : sig idx L.length = σ at *
  have hP := X.len
  have σlo : ∀ k, k < 100 → σ k = k := fun k hk => by rw [← hσ]; simp [sig, hk]
  have σin : ∀ i j, idx[i]? = some j → σ (100 + i) = 100 + j := fun i j hj => by
    rw [← hσ]; simp only [sig]; rw [if_neg (by omega), show 100 + i - 100 = i by omega, hj]
  have σnew : ∀ i, idx.length ≤ i → σ (100 + i) = 100 + L.length + (i - idx.length) := fun i hi => by
    rw [← hσ]; simp only [sig]; rw [if_neg (by omega), show 100 + i - 100 = i by omega, List.getElem?_eq_none hi]
  have σlt : ∀ k, k < 100 + L0.length → σ k < 100 + L.length := fun k hk => by
    by_cases h1 : k < 100
    · rw [σlo k h1]; omega
    · have h2 : k - 100 < idx.length := by omega
      have := σin (k - 100) idx[k - 100] (List.getElem?_eq_getElem h2)
      rw [show 100 + (k - 100) = k by omega] at this
      rw [this]
      have := hin _ (List.getElem_mem h2)
      omega
  have σinj : ∀ i j, i < 100 + L0.length → j < 100 + L0.length → σ i = σ j → i = j := fun i j hi hj e => by
    by_cases h1 : i < 100
    · by_cases h2 : j < 100
      · rw [σlo i h1, σlo j h2] at e; exact e
      · have h3 : j - 100 < idx.length := by omega
        have := σin (j - 100) _ (List.getElem?_eq_getElem h3)
        rw [show 100 + (j - 100) = j by omega] at this
        rw [σlo i h1, this] at e; omega
    · have h3 : i - 100 < idx.length := by omega
      have e1 := σin (i - 100) _ (List.getElem?_eq_getElem h3)
      rw [show 100 + (i - 100) = i by omega] at e1
      by_cases h2 : j < 100
      · rw [σlo j h2, e1] at e; omega
      · have h4 : j - 100 < idx.length := by omega
        have e2 := σin (j - 100) _ (List.getElem?_eq_getElem h4)
        rw [show 100 + (j - 100) = j by omega] at e2
        rw [e1, e2] at e
        have := (List.getElem_inj hnd).1 (show idx[i - 100] = idx[j - 100] by omega)
        omega
  have hblk : ∀ (i : Nat) (o : AO), (X.pad ++ L0)[i]? = some o → 100 ≤ i → (X.pad ++ L)[σ i]? = some (rnO σ o) := fun i o h hi => by
    rcases pad_get h with ⟨h1, _⟩ | ⟨_, _, h1⟩
    · omega
    · obtain ⟨j, hj, hj'⟩ := hL _ o h1
      have := σin _ j hj
      rw [show 100 + (i - 100) = i by omega] at this
      rw [this, get_own]; exact hj'
  refine ⟨h.1, fun ρ w hs hw => ?_⟩
  have hsim0 : Sim X.ng (fun k => ρ (σ k)) (X.pad ++ L0) w := by
    refine ⟨by rw [full_len]; have := X.ngl; omega, fun g hg => ?_, fun i j o h hw hj e => ?_, fun i hi => ?_, fun i c T h => ?_, fun i b c h => ?_, fun i o h => ?_⟩
    · show ρ (σ g) = g
      rw [σlo g (by have := X.ngl; omega), hs.glob g hg]
    · rcases pad_get h with ⟨_, _, h2⟩ | ⟨h1, h2, h3⟩
      · rw [h2] at hw; cases hw
      · rw [full_len] at hj
        exact σinj i j h2 hj (hs.inj (σ i) (σ j) _ (hblk i o h h1) (by rw [rnO_wr]; exact hw) (by rw [full_len]; exact σlt j hj) e)
    · rw [full_len] at hi; exact hs.lt (σ i) (by rw [full_len]; exact σlt i hi)
    · rcases pad_get h with ⟨_, _, h2⟩ | ⟨h1, h2, h3⟩
      · cases h2
      · obtain ⟨g1, g2⟩ := hs.cells (σ i) _ T (hblk i _ h h1)
        refine ⟨?_, by rw [full_len]; exact hw0 _ (List.mem_of_getElem? h3)⟩
        rw [g1, List.map_map]
        congr 3
        exact List.map_congr_left fun v _ => rl_comp ρ σ v
    · rcases pad_get h with ⟨h1, h2, _⟩ | ⟨h1, h2, h3⟩
      · obtain ⟨g1, g2⟩ := hs.ro i b c (by rw [get_pad h1]; exact h2)
        refine ⟨fun j v hv => ?_, fun v hv => (X.wf i b c h2 v hv).mono (by rw [full_len]; omega)⟩
        show w.cell? ⟨ρ (σ i), b + j, none⟩ = _
        rw [σlo i h1, g1 j v hv]
        rw [X.wf i b c h2 v (List.mem_of_getElem? hv) ρ (fun k => ρ (σ k)) fun k hk => by rw [σlo k hk]]
      · obtain ⟨g1, g2⟩ := hs.ro (σ i) b _ (hblk i _ h h1)
        refine ⟨fun j v hv => ?_, by rw [full_len]; exact hw0 _ (List.mem_of_getElem? h3)⟩
        have := g1 j (rl σ v) (by simp [hv])
        rw [rl_comp] at this; exact this
    · rcases pad_get h with ⟨h1, h2, _⟩ | ⟨h1, h2, h3⟩
      · show w.heap[ρ (σ i)]? = some o
        rw [σlo i h1]
        exact hs.obj i o (by rw [get_pad h1]; exact h2)
      · exact hs.obj (σ i) o (hblk i _ h h1)
  have hargs : (vs0.map (rl σ)).map (rl ρ) = vs0.map (rl fun k => ρ (σ k)) := by
    rw [List.map_map]; exact List.map_congr_left fun v _ => rl_comp ρ σ v
  rw [hargs]
  refine (h.2 _ w hsim0 (by rw [full_len]; exact hv0)).mono ?_
  rintro e w' ⟨ρ1, v, M, he, hk0, hwf, s, x⟩
  have hML : L0.length ≤ M.length := by have := x.len; simp only [full_len] at this; omega
  obtain ⟨hnew, hkk⟩ := hk v M hML hk0
  rw [full_len] at hwf
  have hag : ∀ i, i < 100 + L0.length → ρ1 i = ρ (σ i) := fun i hi => x.agree i (by rw [full_len]; exact hi)
  generalize hρ2 : (fun k => if k < 100 + L.length then ρ k else ρ1 (k - (100 + L.length) + (100 + L0.length))) = ρ2
  have r2lo : ∀ k, k < 100 + L.length → ρ2 k = ρ k := fun k hk => by rw [← hρ2]; simp [hk]
  have r2hi : ∀ k, ρ2 (100 + L.length + k) = ρ1 (100 + L0.length + k) := fun k => by
    rw [← hρ2]; simp only; rw [if_neg (by omega)]; congr 1; omega
  have r2σ : ∀ i, ρ2 (σ i) = ρ1 i ∨ 100 + M.length ≤ i := fun i => by
    by_cases hi : i < 100 + L0.length
    · left; rw [r2lo _ (σlt i hi), hag i hi]
    · left
      have := σnew (i - 100) (by omega)
      rw [show 100 + (i - 100) = i by omega] at this
      rw [this, r2hi]; congr 1; omega
  have r2σ' : ∀ i, ρ2 (σ i) = ρ1 i := fun i => by
    by_cases hi : i < 100 + L0.length
    · rw [r2lo _ (σlt i hi), hag i hi]
    · have := σnew (i - 100) (by omega)
      rw [show 100 + (i - 100) = i by omega] at this
      rw [this, r2hi]; congr 1; omega
  have σltM : ∀ i, i < 100 + M.length → σ i < 100 + (L.length + (M.length - L0.length)) := fun i hi => by
    by_cases h1 : i < 100 + L0.length
    · have := σlt i h1; omega
    · have := σnew (i - 100) (by omega)
      rw [show 100 + (i - 100) = i by omega] at this
      omega
  have rlσ : ∀ u, rl ρ2 (rl σ u) = rl ρ1 u := fun u => by
    rw [rl_comp]; congr 1; funext i; exact r2σ' i
  generalize hL2 : fixL σ L idx M = L2 at *
  have h2len : L2.length = L.length + (M.length - L0.length) := by
    rw [← hL2]; simp only [fixL, List.length_append, setAll_len, List.length_map, List.length_drop]; omega
  have g2in : ∀ i o, 100 ≤ i → (X.pad ++ M)[i]? = some o → (X.pad ++ L2)[σ i]? = some (rnO σ o) := fun i o hi h => by
    rcases pad_get h with ⟨h1, _⟩ | ⟨_, h1, h3⟩
    · omega
    · by_cases h4 : i - 100 < idx.length
      · have e1 := σin (i - 100) _ (List.getElem?_eq_getElem h4)
        rw [show 100 + (i - 100) = i by omega] at e1
        rw [e1, get_own, ← hL2, fixL, List.getElem?_append_left (by rw [setAll_len]; exact hin _ (List.getElem_mem h4))]
        exact setAll_in _ _ _ (i - 100) _ _ hnd (List.getElem?_eq_getElem h4) (by simp [h3]) (hin _ (List.getElem_mem h4))
      · have e1 := σnew (i - 100) (by omega)
        rw [show 100 + (i - 100) = i by omega] at e1
        rw [e1, Nat.add_assoc, get_own, ← hL2, fixL, List.getElem?_append_right (by rw [setAll_len]; omega), setAll_len, List.getElem?_map, List.getElem?_drop, show idx.length + (L.length + (i - 100 - idx.length) - L.length) = i - 100 by omega, h3]; rfl
  have g2U : ∀ k, k < L.length → k ∉ idx → (X.pad ++ L2)[100 + k]? = L[k]? := fun k hk hn => by
    rw [get_own, ← hL2, fixL, List.getElem?_append_left (by rw [setAll_len]; exact hk), setAll_out _ _ _ _ hn]
  have who : ∀ k o, (X.pad ++ L2)[k]? = some o → (k < 100 ∧ X.pad[k]? = some o) ∨ (∃ i p, 100 ≤ i ∧ (X.pad ++ M)[i]? = some p ∧ k = σ i ∧ o = rnO σ p) ∨ (∃ j, k = 100 + j ∧ j < L.length ∧ j ∉ idx ∧ L[j]? = some o) := fun k o h => by
    rcases pad_get h with ⟨h1, h2, _⟩ | ⟨h1, h2, h3⟩
    · exact .inl ⟨h1, h2⟩
    · right
      by_cases hk : k - 100 < L.length
      · by_cases hm : k - 100 ∈ idx
        · left
          obtain ⟨i, hi, e⟩ := List.getElem_of_mem hm
          have hiM : i < M.length := by omega
          have e1 := σin i (k - 100) (by rw [List.getElem?_eq_getElem hi, e])
          have hp : (X.pad ++ M)[100 + i]? = some M[i] := by rw [get_own]; exact List.getElem?_eq_getElem hiM
          refine ⟨100 + i, M[i], by omega, hp, by omega, ?_⟩
          have := g2in _ _ (by omega) hp
          rw [e1, show 100 + (k - 100) = k by omega, h] at this
          exact Option.some.inj this
        · right
          refine ⟨k - 100, by omega, hk, hm, ?_⟩
          rw [← g2U _ hk hm, show 100 + (k - 100) = k by omega, h]
      · left
        have hiM : L0.length + (k - 100 - L.length) < M.length := by omega
        have e1 := σnew (L0.length + (k - 100 - L.length)) (by omega)
        have hp : (X.pad ++ M)[100 + (L0.length + (k - 100 - L.length))]? = some M[L0.length + (k - 100 - L.length)] := by rw [get_own]; exact List.getElem?_eq_getElem hiM
        have e2 : σ (100 + (L0.length + (k - 100 - L.length))) = k := by rw [e1]; omega
        refine ⟨_, _, by omega, hp, e2.symm, ?_⟩
        have := g2in _ _ (by omega) hp
        rw [e2, h] at this
        exact Option.some.inj this
  have hwr0 : ∀ i o, 100 ≤ i → i < 100 + L0.length → (X.pad ++ M)[i]? = some o → o.wr = true → ∃ p, (X.pad ++ L)[σ i]? = some p ∧ p.wr = true := fun i o hi hi' h hw => by
    have hi0 : i < (X.pad ++ L0).length := by rw [full_len]; exact hi'
    have hp : (X.pad ++ L0)[i]? = some (X.pad ++ L0)[i] := List.getElem?_eq_getElem hi0
    refine ⟨_, hblk i _ hp hi, ?_⟩
    rw [rnO_wr]
    cases hc : (X.pad ++ L0)[i].wr with
    | true => rfl
    | false =>
      have := x.stay i _ hp hc
      rw [h] at this; simp only [Option.some.injEq] at this
      rw [this, hc] at hw; cases hw
  have hnewM : ∀ i o, 100 + L0.length ≤ i → (X.pad ++ M)[i]? = some o → o.wr = true ∧ w.heap.size ≤ ρ1 i := fun i o hi h => by
    rcases pad_get h with ⟨h1, _⟩ | ⟨h1, h2, h3⟩
    · omega
    · have : o.wr = true := hnew o (by
        refine List.mem_of_getElem? (i := i - 100 - idx.length) ?_
        rw [List.getElem?_drop, show idx.length + (i - 100 - idx.length) = i - 100 by omega, h3])
      exact ⟨this, x.new i o (by rw [full_len]; exact hi) h this⟩
  have hU : ∀ j, j < L.length → j ∉ idx → w'.heap[ρ (100 + j)]? = w.heap[ρ (100 + j)]? := fun j hj hn => by
    refine x.keep _ (hs.lt _ (by rw [full_len]; omega)) fun i o h hw e => ?_
    rcases pad_get h with ⟨_, _, h2⟩ | ⟨h1, h2, h3⟩
    · rw [h2] at hw; cases hw
    · have := hs.inj (σ i) (100 + j) _ (hblk i o h h1) (by rw [rnO_wr]; exact hw) (by rw [full_len]; omega) e
      obtain ⟨q, hq, _⟩ := hL _ o h3
      have e1 := σin _ q hq
      rw [show 100 + (i - 100) = i by omega] at e1
      rw [e1] at this
      exact hn (by rw [← show q = j by omega]; exact List.mem_of_getElem? hq)
  have hsz := x.size
  have hwL : ∀ (j : Nat) (c : List Value) (T : TypeId), L[j]? = some (.cells c T) → ∀ v ∈ c, WF (100 + L.length) v := fun j c T h v hv => by
    have := (hs.cells (100 + j) c T (by rw [get_own]; exact h)).2 v hv
    rwa [full_len] at this
  have hwR : ∀ (j b : Nat) (c : List Value), L[j]? = some (.ro b c) → ∀ v ∈ c, WF (100 + L.length) v := fun j b c h v hv => by
    have := (hs.ro (100 + j) b c (by rw [get_own]; exact h)).2 v hv
    rwa [full_len] at this
  refine ⟨ρ2, rl σ v, L2, by rw [he, rlσ], hkk, ?_, ?_, ?_⟩
  · rw [full_len, h2len]; exact hwf.map σltM
  · refine ⟨by rw [full_len]; have := X.ngl; omega, fun g hg => ?_, ?_, fun k hk => ?_, fun k c T h => ?_, fun k b c h => ?_, fun k o h => ?_⟩
    · rw [r2lo g (by have := X.ngl; omega), hs.glob g hg]
    · intro i j o h hw hj e
      have hjs : ∃ p, (X.pad ++ L2)[j]? = some p := ⟨_, List.getElem?_eq_getElem hj⟩
      obtain ⟨p, hp⟩ := hjs
      rcases who i o h with ⟨_, h1⟩ | ⟨i', o', hi1, hi2, rfl, rfl⟩ | ⟨i', rfl, hi1, hi2, hi3⟩
      · have := X.ro i o h1; rw [this] at hw; cases hw
      · rw [rnO_wr] at hw
        rw [r2σ'] at e
        have hi3 : i' < 100 + M.length := by rcases pad_get hi2 with ⟨_, _⟩ | ⟨_, h, _⟩ <;> omega
        rcases who j p hp with ⟨hj1, _⟩ | ⟨j', p', hj1, hj2, rfl, _⟩ | ⟨j', rfl, hj1, hj2, hj3⟩
        · rw [r2lo j (by omega), ← σlo j hj1, ← hag j (by omega)] at e
          have := s.inj i' j o' hi2 hw (by rw [full_len]; omega) e
          omega
        · rw [r2σ'] at e
          rw [s.inj i' j' o' hi2 hw (by rcases pad_get hj2 with ⟨_, _⟩ | ⟨_, h, _⟩ <;> rw [full_len] <;> omega) e]
        · rw [r2lo _ (by omega)] at e
          by_cases h5 : i' < 100 + L0.length
          · obtain ⟨q, hq1, hq2⟩ := hwr0 i' o' hi1 h5 hi2 hw
            rw [hag i' h5] at e
            exact hs.inj (σ i') (100 + j') q hq1 hq2 (by rw [full_len]; omega) e
          · have h6 := (hnewM i' o' (by omega) hi2).2
            have h7 := hs.lt (100 + j') (by rw [full_len]; omega)
            omega
      · rw [r2lo _ (by omega)] at e
        have hiL : (X.pad ++ L)[100 + i']? = some o := by rw [get_own]; exact hi3
        rcases who j p hp with ⟨hj1, _⟩ | ⟨j', p', hj1, hj2, rfl, _⟩ | ⟨j', rfl, hj1, hj2, hj3⟩
        · rw [r2lo j (by omega)] at e
          exact hs.inj _ j o hiL hw (by rw [full_len]; omega) e
        · rw [r2σ'] at e
          by_cases h5 : j' < 100 + L0.length
          · rw [hag j' h5] at e
            have := hs.inj _ (σ j') o hiL hw (by rw [full_len]; exact σlt j' h5) e
            exact this
          · have h6 := (hnewM j' p' (by omega) hj2).2
            have h7 := hs.lt (100 + i') (by rw [full_len]; omega)
            omega
        · rw [r2lo _ (by omega)] at e
          exact hs.inj _ (100 + j') o hiL hw (by rw [full_len]; omega) e
    · rw [full_len, h2len] at hk
      by_cases h1 : k < 100 + L.length
      · rw [r2lo k h1]; exact Nat.lt_of_lt_of_le (hs.lt k (by rw [full_len]; exact h1)) hsz
      · have := r2hi (k - (100 + L.length))
        rw [show 100 + L.length + (k - (100 + L.length)) = k by omega] at this
        rw [this]; exact s.lt _ (by rw [full_len]; omega)
    · rw [full_len, h2len]
      rcases who k _ h with ⟨_, h1⟩ | ⟨i, p, hi1, hi2, rfl, hp⟩ | ⟨j, rfl, hj1, hj2, hj3⟩
      · have := X.ro k _ h1; cases this
      · cases p with
        | cells c' T' =>
          simp only [rnO, AO.cells.injEq] at hp
          obtain ⟨rfl, rfl⟩ := hp
          obtain ⟨g1, g2⟩ := s.cells i c' _ hi2
          rw [full_len] at g2
          rw [r2σ', g1, List.map_map]
          refine ⟨?_, fun u hu => ?_⟩
          · congr 3
            exact List.map_congr_left fun u _ => (rlσ u).symm
          · obtain ⟨u', hu', rfl⟩ := List.mem_map.1 hu
            exact (g2 u' hu').map σltM
        | _ => simp [rnO] at hp
      · rw [r2lo _ (by omega), hU j hj1 hj2]
        obtain ⟨g1, g2⟩ := hs.cells (100 + j) c T (by rw [get_own]; exact hj3)
        have hwc := hwL j c T hj3
        refine ⟨?_, fun u hu => (hwc u hu).mono (by omega)⟩
        rw [g1]; congr 3
        exact List.map_congr_left fun u hu => hwc u hu _ _ fun i hi => (r2lo i hi).symm
    · rw [full_len, h2len]
      rcases who k _ h with ⟨h0, h1⟩ | ⟨i, p, hi1, hi2, rfl, hp⟩ | ⟨j, rfl, hj1, hj2, hj3⟩
      · have hwc := X.wf k b c h1
        refine ⟨fun j u hu => ?_, fun u hu => (hwc u hu).mono (by omega)⟩
        have := (s.ro k b c (by rw [get_pad h0]; exact h1)).1 j u hu
        rw [r2lo k (by omega), ← σlo k h0, ← hag k (by omega), this]
        congr 1
        exact hwc u (List.mem_of_getElem? hu) _ _ fun i hi => by rw [r2lo i (by omega), hag i (by omega), σlo i hi]
      · cases p with
        | ro b' c' =>
          simp only [rnO, AO.ro.injEq] at hp
          obtain ⟨rfl, rfl⟩ := hp
          obtain ⟨g1, g2⟩ := s.ro i _ c' hi2
          rw [full_len] at g2
          refine ⟨fun j u hu => ?_, fun u hu => ?_⟩
          · rw [List.getElem?_map] at hu
            cases hc : c'[j]? with
            | none => simp [hc] at hu
            | some u' =>
              simp [hc] at hu; subst hu
              rw [r2σ', rlσ]; exact g1 j u' hc
          · obtain ⟨u', hu', rfl⟩ := List.mem_map.1 hu
            exact (g2 u' hu').map σltM
        | _ => simp [rnO] at hp
      · have hwc := hwR j b c hj3
        refine ⟨fun m u hu => ?_, fun u hu => (hwc u hu).mono (by omega)⟩
        rw [r2lo _ (by omega), World.cell?_of_block (w := w) (a := ⟨ρ (100 + j), b + m, none⟩) (hU j hj1 hj2)]
        rw [(hs.ro (100 + j) b c (by rw [get_own]; exact hj3)).1 m u hu]
        congr 1
        exact hwc u (List.mem_of_getElem? hu) _ _ fun i hi => (r2lo i hi).symm
    · rcases who k _ h with ⟨h0, h1⟩ | ⟨i, p, hi1, hi2, rfl, hp⟩ | ⟨j, rfl, hj1, hj2, hj3⟩
      · have := X.ro k _ h1; cases this
      · cases p with
        | obj o' =>
          simp only [rnO, AO.obj.injEq] at hp
          subst hp
          rw [r2σ']; exact s.obj i o hi2
        | _ => simp [rnO] at hp
      · rw [r2lo _ (by omega), hU j hj1 hj2]
        exact hs.obj (100 + j) o (by rw [get_own]; exact hj3)
  · refine ⟨x.os, x.tape, x.output, hsz, by simp only [full_len, h2len]; omega, fun i hi => r2lo i (by rwa [full_len] at hi), fun k o h1 h2 h3 => ?_, fun j hj hn => x.keep j hj fun i o h hw e => ?_, fun k o h1 h2 => ?_⟩
    · rw [full_len] at h1
      rcases who k o h2 with ⟨h0, _⟩ | ⟨i, p, hi1, hi2, rfl, hp⟩ | ⟨j, rfl, hj1, _⟩
      · omega
      · rw [r2σ']
        by_cases h5 : i < 100 + L0.length
        · have := σlt i h5; omega
        · exact (hnewM i p (by omega) hi2).2
      · omega
    · rcases pad_get h with ⟨_, _, h2⟩ | ⟨h1, h2, h3⟩
      · rw [h2] at hw; cases hw
      · exact hn (σ i) _ (hblk i o h h1) (by rw [rnO_wr]; exact hw) e
    · rcases pad_get h1 with ⟨h3, h4, _⟩ | ⟨h3, h4, h5⟩
      · rw [get_pad h3]; exact h4
      · by_cases hm : k - 100 ∈ idx
        · obtain ⟨i, hi, e⟩ := List.getElem_of_mem hm
          have hi0 : i < L0.length := by omega
          obtain ⟨j, hj, hj'⟩ := hL i _ (List.getElem?_eq_getElem hi0)
          rw [List.getElem?_eq_getElem hi, e, Option.some.injEq] at hj
          rw [← hj, h5, Option.some.injEq] at hj'
          have hp : (X.pad ++ L0)[100 + i]? = some L0[i] := by rw [get_own]; exact List.getElem?_eq_getElem hi0
          have hst := x.stay _ _ hp (by rw [← rnO_wr σ, ← hj']; exact h2)
          have := g2in _ _ (by omega) hst
          rw [σin i (k - 100) (by rw [List.getElem?_eq_getElem hi, e]), show 100 + (k - 100) = k by omega] at this
          rw [this, hj']
        · rw [← show 100 + (k - 100) = k by omega, g2U _ (by omega) hm]; exact h5
end
end Go.Tb
end
section
namespace Go.Tb
open Go Go.Proofs
set_option maxRecDepth 10000
theorem sz3 : tSz Tryz.prog 3 = some (false, 1) := by kernel_rfl
theorem ti3 : tInt Tryz.prog 3 = some .i64 := by kernel_rfl
theorem un3 : Tryz.prog.underlying 3 = some (.int .i64) := by kernel_rfl
theorem tz3 : tZero Tryz.prog 3 = some [.int .i64 0] := by kernel_rfl
theorem sz4 : tSz Tryz.prog 4 = some (false, 1) := by kernel_rfl
theorem tz4 : tZero Tryz.prog 4 = some [.bool false] := by kernel_rfl
theorem ti5 : tInt Tryz.prog 5 = some .u8 := by kernel_rfl
theorem sz9 : tSz Tryz.prog 9 = some (false, 1) := by kernel_rfl
theorem un9 : Tryz.prog.underlying 9 = some (.string) := by kernel_rfl
theorem tz9 : tZero Tryz.prog 9 = some [.string ⟨#[]⟩] := by kernel_rfl
theorem sz22 : tSz Tryz.prog 22 = some (true, 64) := by kernel_rfl
theorem te22 : tElem Tryz.prog 22 = some (some 64, 3, false, 1) := by kernel_rfl
theorem sz24 : tSz Tryz.prog 24 = some (true, 69) := by kernel_rfl
theorem tf24_0 : tFld Tryz.prog 24 0 = some (0, true, 64) := by kernel_rfl
theorem tf24_1 : tFld Tryz.prog 24 1 = some (64, false, 1) := by kernel_rfl
theorem tf24_2 : tFld Tryz.prog 24 2 = some (65, false, 1) := by kernel_rfl
theorem tf24_3 : tFld Tryz.prog 24 3 = some (66, false, 1) := by kernel_rfl
theorem tf24_4 : tFld Tryz.prog 24 4 = some (67, false, 1) := by kernel_rfl
theorem tf24_5 : tFld Tryz.prog 24 5 = some (68, false, 1) := by kernel_rfl
theorem tz24 : tZero Tryz.prog 24 = some (List.replicate 69 (.int .i64 0)) := by kernel_rfl
theorem sz28 : tSz Tryz.prog 28 = some (true, 8) := by kernel_rfl
theorem te28 : tElem Tryz.prog 28 = some (some 8, 3, false, 1) := by kernel_rfl
theorem ta28 : tArr Tryz.prog 28 = some 1 := by kernel_rfl
theorem tz28 : tZero Tryz.prog 28 = some [.int .i64 0, .int .i64 0, .int .i64 0, .int .i64 0, .int .i64 0, .int .i64 0, .int .i64 0, .int .i64 0] := by kernel_rfl
theorem sz32 : tSz Tryz.prog 32 = some (false, 1) := by kernel_rfl
theorem un32 : Tryz.prog.underlying 32 = some (.slice 38) := by kernel_rfl
theorem te32 : tElem Tryz.prog 32 = some (none, 38, true, 3) := by kernel_rfl
theorem sl32 : tSl Tryz.prog 32 = some (38, 3, 24) := by kernel_rfl
theorem tz32 : tZero Tryz.prog 32 = some [.slice none 0 0] := by kernel_rfl
theorem sz33 : tSz Tryz.prog 33 = some (false, 1) := by kernel_rfl
theorem un33 : Tryz.prog.underlying 33 = some (.slice 3) := by kernel_rfl
theorem te33 : tElem Tryz.prog 33 = some (none, 3, false, 1) := by kernel_rfl
theorem sl33 : tSl Tryz.prog 33 = some (3, 1, 8) := by kernel_rfl
theorem tz33 : tZero Tryz.prog 33 = some [.slice none 0 0] := by kernel_rfl
theorem sz38 : tSz Tryz.prog 38 = some (true, 3) := by kernel_rfl
theorem ta38 : tArr Tryz.prog 38 = none := by kernel_rfl
theorem tp38 : tPl Tryz.prog 38 = some [(0, 1), (1, 1), (2, 1)] := by kernel_rfl
theorem tf38_0 : tFld Tryz.prog 38 0 = some (0, false, 1) := by kernel_rfl
theorem tf38_1 : tFld Tryz.prog 38 1 = some (1, false, 1) := by kernel_rfl
theorem tf38_2 : tFld Tryz.prog 38 2 = some (2, false, 1) := by kernel_rfl
theorem tz38 : tZero Tryz.prog 38 = some [.int .i64 0, .int .i64 0, .int .i64 0] := by kernel_rfl
theorem sz48 : tSz Tryz.prog 48 = some (false, 1) := by kernel_rfl
theorem un48 : Tryz.prog.underlying 48 = some (.slice 60) := by kernel_rfl
theorem te48 : tElem Tryz.prog 48 = some (none, 60, true, 11) := by kernel_rfl
theorem sl48 : tSl Tryz.prog 48 = some (60, 11, 96) := by kernel_rfl
theorem un50 : Tryz.prog.underlying 50 = some (.pointer 60) := by kernel_rfl
theorem ti53 : tInt Tryz.prog 53 = some .u64 := by kernel_rfl
theorem sz55 : tSz Tryz.prog 55 = some (false, 1) := by kernel_rfl
theorem sz57 : tSz Tryz.prog 57 = some (false, 1) := by kernel_rfl
theorem ti57 : tInt Tryz.prog 57 = some .i8 := by kernel_rfl
theorem un57 : Tryz.prog.underlying 57 = some (.int .i8) := by kernel_rfl
theorem tz57 : tZero Tryz.prog 57 = some [.int .i8 0] := by kernel_rfl
theorem sz58 : tSz Tryz.prog 58 = some (false, 1) := by kernel_rfl
theorem un58 : Tryz.prog.underlying 58 = some (.int .i8) := by kernel_rfl
theorem sz60 : tSz Tryz.prog 60 = some (true, 11) := by kernel_rfl
theorem ta60 : tArr Tryz.prog 60 = none := by kernel_rfl
theorem tp60 : tPl Tryz.prog 60 = some [(0, 1), (1, 1), (2, 1), (3, 1), (4, 1), (5, 1), (6, 1), (7, 1), (8, 1), (9, 1), (10, 1)] := by kernel_rfl
theorem tf60_7 : tFld Tryz.prog 60 7 = some (7, false, 1) := by kernel_rfl
theorem tf60_8 : tFld Tryz.prog 60 8 = some (8, false, 1) := by kernel_rfl
theorem tf60_9 : tFld Tryz.prog 60 9 = some (9, false, 1) := by kernel_rfl
theorem tf60_10 : tFld Tryz.prog 60 10 = some (10, false, 1) := by kernel_rfl
theorem tz60 : tZero Tryz.prog 60 = some [.pointer none, .pointer none, .string ⟨#[]⟩, .string ⟨#[]⟩, .map none, .slice none 0 0, .int .u64 0, .int .u16 0, .int .i8 0, .int .i8 0, .int .i8 0] := by kernel_rfl
theorem sz69 : tSz Tryz.prog 69 = some (false, 1) := by kernel_rfl
theorem un70 : Tryz.prog.underlying 70 = some (.slice 9) := by kernel_rfl
theorem te70 : tElem Tryz.prog 70 = some (none, 9, false, 1) := by kernel_rfl
theorem sl70 : tSl Tryz.prog 70 = some (9, 1, 16) := by kernel_rfl
theorem sz72 : tSz Tryz.prog 72 = some (false, 1) := by kernel_rfl
theorem sz74 : tSz Tryz.prog 74 = some (false, 1) := by kernel_rfl
theorem ta82 : tArr Tryz.prog 82 = none := by kernel_rfl
theorem tp82 : tPl Tryz.prog 82 = some [(0, 1), (1, 1), (2, 1), (3, 1), (4, 1), (5, 1), (6, 1), (7, 1)] := by kernel_rfl
theorem tf82_0 : tFld Tryz.prog 82 0 = some (0, false, 1) := by kernel_rfl
theorem tf82_1 : tFld Tryz.prog 82 1 = some (1, false, 1) := by kernel_rfl
theorem tf82_2 : tFld Tryz.prog 82 2 = some (2, false, 1) := by kernel_rfl
theorem tf82_3 : tFld Tryz.prog 82 3 = some (3, false, 1) := by kernel_rfl
theorem tf82_4 : tFld Tryz.prog 82 4 = some (4, false, 1) := by kernel_rfl
theorem tf82_5 : tFld Tryz.prog 82 5 = some (5, false, 1) := by kernel_rfl
theorem tf82_6 : tFld Tryz.prog 82 6 = some (6, false, 1) := by kernel_rfl
theorem tf82_7 : tFld Tryz.prog 82 7 = some (7, false, 1) := by kernel_rfl
theorem tz82 : tZero Tryz.prog 82 = some [.pointer none, .string ⟨#[]⟩, .slice none 0 0, .int .i64 0, .int .i64 0, .int .i8 0, .int .i8 0, .bool false] := by kernel_rfl
theorem ta84 : tArr Tryz.prog 84 = none := by kernel_rfl
theorem tp84 : tPl Tryz.prog 84 = some [] := by kernel_rfl
theorem tz84 : tZero Tryz.prog 84 = some [] := by kernel_rfl
theorem sz90 : tSz Tryz.prog 90 = some (false, 1) := by kernel_rfl
theorem ti90 : tInt Tryz.prog 90 = some .i8 := by kernel_rfl
theorem te104 : tElem Tryz.prog 104 = some (some 8, 4, false, 1) := by kernel_rfl
theorem ta104 : tArr Tryz.prog 104 = some 1 := by kernel_rfl
theorem tz104 : tZero Tryz.prog 104 = some [.bool false, .bool false, .bool false, .bool false, .bool false, .bool false, .bool false, .bool false] := by kernel_rfl
theorem sz108 : tSz Tryz.prog 108 = some (false, 1) := by kernel_rfl
theorem ta110 : tArr Tryz.prog 110 = none := by kernel_rfl
theorem tp110 : tPl Tryz.prog 110 = some [(0, 1), (1, 1), (2, 1), (3, 1), (4, 1), (5, 1), (6, 1), (7, 1), (8, 1), (9, 1), (10, 1), (11, 1), (12, 1), (13, 1), (14, 1), (15, 1), (16, 1)] := by kernel_rfl
theorem tf110_0 : tFld Tryz.prog 110 0 = some (0, false, 1) := by kernel_rfl
theorem tf110_1 : tFld Tryz.prog 110 1 = some (1, false, 1) := by kernel_rfl
theorem tf110_2 : tFld Tryz.prog 110 2 = some (2, false, 1) := by kernel_rfl
theorem tf110_3 : tFld Tryz.prog 110 3 = some (3, false, 1) := by kernel_rfl
theorem tf110_4 : tFld Tryz.prog 110 4 = some (4, false, 1) := by kernel_rfl
theorem tf110_5 : tFld Tryz.prog 110 5 = some (5, false, 1) := by kernel_rfl
theorem tf110_6 : tFld Tryz.prog 110 6 = some (6, false, 1) := by kernel_rfl
theorem tf110_7 : tFld Tryz.prog 110 7 = some (7, false, 1) := by kernel_rfl
theorem tf110_8 : tFld Tryz.prog 110 8 = some (8, false, 1) := by kernel_rfl
theorem tf110_9 : tFld Tryz.prog 110 9 = some (9, false, 1) := by kernel_rfl
theorem tf110_10 : tFld Tryz.prog 110 10 = some (10, false, 1) := by kernel_rfl
theorem tf110_11 : tFld Tryz.prog 110 11 = some (11, false, 1) := by kernel_rfl
theorem tf110_12 : tFld Tryz.prog 110 12 = some (12, false, 1) := by kernel_rfl
theorem tf110_13 : tFld Tryz.prog 110 13 = some (13, false, 1) := by kernel_rfl
theorem tf110_14 : tFld Tryz.prog 110 14 = some (14, false, 1) := by kernel_rfl
theorem tf110_15 : tFld Tryz.prog 110 15 = some (15, false, 1) := by kernel_rfl
theorem tf110_16 : tFld Tryz.prog 110 16 = some (16, false, 1) := by kernel_rfl
theorem tz110 : tZero Tryz.prog 110 = some [.int .u64 0, .int .u64 0, .int .u64 0, .int .u64 0, .int .u64 0, .int .u64 0, .int .u64 0, .int .u64 0, .int .u64 0, .int .u64 0, .int .u64 0, .int .u64 0, .int .u64 0, .int .u64 0, .int .u64 0, .int .i8 0, .int .i8 0] := by kernel_rfl
theorem sz112 : tSz Tryz.prog 112 = some (false, 1) := by kernel_rfl
theorem un112 : Tryz.prog.underlying 112 = some (.slice 90) := by kernel_rfl
theorem te112 : tElem Tryz.prog 112 = some (none, 90, false, 1) := by kernel_rfl
theorem un119 : Tryz.prog.underlying 119 = some (.slice 122) := by kernel_rfl
theorem te119 : tElem Tryz.prog 119 = some (none, 122, true, 2) := by kernel_rfl
theorem sl119 : tSl Tryz.prog 119 = some (122, 2, 16) := by kernel_rfl
theorem te122 : tElem Tryz.prog 122 = some (some 2, 3, false, 1) := by kernel_rfl
theorem ta122 : tArr Tryz.prog 122 = some 1 := by kernel_rfl
theorem tz122 : tZero Tryz.prog 122 = some [.int .i64 0, .int .i64 0] := by kernel_rfl
theorem te126 : tElem Tryz.prog 126 = some (some 218, 60, true, 11) := by kernel_rfl
theorem tz126 : tZero Tryz.prog 126 = some (List.replicate 218 ([.pointer none, .pointer none, .string ⟨#[]⟩, .string ⟨#[]⟩, .map none, .slice none 0 0, .int .u64 0, .int .u16 0, .int .i8 0, .int .i8 0, .int .i8 0] : List Value)).flatten := by kernel_rfl
theorem sz130 : tSz Tryz.prog 130 = some (false, 1) := by kernel_rfl
theorem un130 : Tryz.prog.underlying 130 = some (.slice 58) := by kernel_rfl
theorem te130 : tElem Tryz.prog 130 = some (none, 58, false, 1) := by kernel_rfl
theorem te133 : tElem Tryz.prog 133 = some (some 2, 60, true, 11) := by kernel_rfl
theorem tz133 : tZero Tryz.prog 133 = some (List.replicate 2 ([.pointer none, .pointer none, .string ⟨#[]⟩, .string ⟨#[]⟩, .map none, .slice none 0 0, .int .u64 0, .int .u16 0, .int .i8 0, .int .i8 0, .int .i8 0] : List Value)).flatten := by kernel_rfl
theorem un141 : Tryz.prog.underlying 141 = some (.slice 57) := by kernel_rfl
theorem te141 : tElem Tryz.prog 141 = some (none, 57, false, 1) := by kernel_rfl
theorem sl141 : tSl Tryz.prog 141 = some (57, 1, 1) := by kernel_rfl
theorem te143 : tElem Tryz.prog 143 = some (some 64, 108, false, 1) := by kernel_rfl
theorem te149 : tElem Tryz.prog 149 = some (some 8, 108, false, 1) := by kernel_rfl
attribute [go_sem] sz3 ti3 un3 tz3 sz4 tz4 ti5 sz9 un9 tz9 sz22 te22 sz24 tf24_0 tf24_1 tf24_2 tf24_3 tf24_4 tf24_5 tz24 sz28 te28 ta28 tz28 sz32 un32 te32 sl32 tz32 sz33 un33 te33 sl33 tz33 sz38 ta38 tp38 tf38_0 tf38_1 tf38_2 tz38 sz48 un48 te48 sl48 un50 ti53 sz55 sz57 ti57 un57 tz57 sz58 un58 sz60 ta60 tp60 tf60_7 tf60_8 tf60_9 tf60_10 tz60 sz69 un70 te70 sl70 sz72 sz74 ta82 tp82 tf82_0 tf82_1 tf82_2 tf82_3 tf82_4 tf82_5 tf82_6 tf82_7 tz82 ta84 tp84 tz84 sz90 ti90 te104 ta104 tz104 sz108 ta110 tp110 tf110_0 tf110_1 tf110_2 tf110_3 tf110_4 tf110_5 tf110_6 tf110_7 tf110_8 tf110_9 tf110_10 tf110_11 tf110_12 tf110_13 tf110_14 tf110_15 tf110_16 tz110 sz112 un112 te112 un119 te119 sl119 te122 ta122 tz122 te126 tz126 sz130 un130 te130 te133 tz133 un141 te141 sl141 te143 te149
end Go.Tb
end
section
namespace Go.Tb
open Go Go.Proofs
def bbKnightMoves : List Int := [9077567998918656, 4679521487814656, 38368557762871296, 19184278881435648, 9592139440717824, 4796069720358912, 2257297371824128, 1128098930098176, 2305878468463689728, 1152939783987658752, 9799982666336960512, 4899991333168480256, 2449995666584240128, 1224997833292120064, 576469569871282176, 288234782788157440, 4620693356194824192, 11533718717099671552, 5802888705324613632, 2901444352662306816, 1450722176331153408, 725361088165576704, 362539804446949376, 145241105196122112, 18049583422636032, 45053588738670592, 22667534005174272, 11333767002587136, 5666883501293568, 2833441750646784, 1416171111120896, 567348067172352, 70506185244672, 175990581010432, 88545054707712, 44272527353856, 22136263676928, 11068131838464, 5531918402816, 2216203387392, 275414786112, 687463207072, 345879119952, 172939559976, 86469779988, 43234889994, 21609056261, 8657044482, 1075839008, 2685403152, 1351090312, 675545156, 337772578, 168886289, 84410376, 33816580, 4202496, 10489856, 5277696, 2638848, 1319424, 659712, 329728, 132096]
def bbKingMoves : List Int := [4665729213955833856, 11592265440851656704, 5796132720425828352, 2898066360212914176, 1449033180106457088, 724516590053228544, 362258295026614272, 144959613005987840, 13853283560024178688, 16186183351374184448, 8093091675687092224, 4046545837843546112, 2023272918921773056, 1011636459460886528, 505818229730443264, 216739030602088448, 54114388906344448, 63227278716305408, 31613639358152704, 15806819679076352, 7903409839538176, 3951704919769088, 1975852459884544, 846636838289408, 211384331665408, 246981557485568, 123490778742784, 61745389371392, 30872694685696, 15436347342848, 7718173671424, 3307175149568, 825720045568, 964771708928, 482385854464, 241192927232, 120596463616, 60298231808, 30149115904, 12918652928, 3225468928, 3768639488, 1884319744, 942159872, 471079936, 235539968, 117769984, 50463488, 12599488, 14721248, 7360624, 3680312, 1840156, 920078, 460039, 197123, 49216, 57504, 28752, 14376, 7188, 3594, 1797, 770]
def bbDiagonals : List Int := [9241421688590303745, 4620710844295151872, 2310355422147575808, 1155177711073755136, 577588855528488960, 288794425616760832, 144396663052566528, 72057594037927936, 36099303471055874, 9241421688590303745, 4620710844295151872, 2310355422147575808, 1155177711073755136, 577588855528488960, 288794425616760832, 144396663052566528, 141012904183812, 36099303471055874, 9241421688590303745, 4620710844295151872, 2310355422147575808, 1155177711073755136, 577588855528488960, 288794425616760832, 550831656968, 141012904183812, 36099303471055874, 9241421688590303745, 4620710844295151872, 2310355422147575808, 1155177711073755136, 577588855528488960, 2151686160, 550831656968, 141012904183812, 36099303471055874, 9241421688590303745, 4620710844295151872, 2310355422147575808, 1155177711073755136, 8405024, 2151686160, 550831656968, 141012904183812, 36099303471055874, 9241421688590303745, 4620710844295151872, 2310355422147575808, 32832, 8405024, 2151686160, 550831656968, 141012904183812, 36099303471055874, 9241421688590303745, 4620710844295151872, 128, 32832, 8405024, 2151686160, 550831656968, 141012904183812, 36099303471055874, 9241421688590303745]
def bbAntiDiagonals : List Int := [9223372036854775808, 4647714815446351872, 2323998145211531264, 1161999622361579520, 580999813328273408, 290499906672525312, 145249953336295424, 72624976668147840, 4647714815446351872, 2323998145211531264, 1161999622361579520, 580999813328273408, 290499906672525312, 145249953336295424, 72624976668147840, 283691315109952, 2323998145211531264, 1161999622361579520, 580999813328273408, 290499906672525312, 145249953336295424, 72624976668147840, 283691315109952, 1108169199648, 1161999622361579520, 580999813328273408, 290499906672525312, 145249953336295424, 72624976668147840, 283691315109952, 1108169199648, 4328785936, 580999813328273408, 290499906672525312, 145249953336295424, 72624976668147840, 283691315109952, 1108169199648, 4328785936, 16909320, 290499906672525312, 145249953336295424, 72624976668147840, 283691315109952, 1108169199648, 4328785936, 16909320, 66052, 145249953336295424, 72624976668147840, 283691315109952, 1108169199648, 4328785936, 16909320, 66052, 258, 72624976668147840, 283691315109952, 1108169199648, 4328785936, 16909320, 66052, 258, 1]
def bbRanks : List Int := [18374686479671623680, 71776119061217280, 280375465082880, 1095216660480, 4278190080, 16711680, 65280, 255]
def bbFiles : List Int := [9259542123273814144, 4629771061636907072, 2314885530818453536, 1157442765409226768, 578721382704613384, 289360691352306692, 144680345676153346, 72340172838076673]
def i8s (l : List Int) : List Value := l.map (.int .i8)
def u64s (l : List Int) : List Value := l.map (.int .u64)
def padL (z : Nat × Nat) : List AO := [.ro 0 [.slice (some ⟨12, z.1, none⟩) 12 12], .ro 0 [.slice (some ⟨13, z.2, none⟩) 4 4], .ro 0 (u64s bbKnightMoves), .ro 0 (u64s bbKingMoves), .ro 0 (u64s bbDiagonals), .ro 0 (u64s bbAntiDiagonals), .ro 0 (u64s bbRanks), .ro 0 (u64s bbFiles), .any, .any, .any, .any, .ro z.1 (i8s [1, 2, 3, 4, 5, 6, 7, 8, 9, 10, 11, 12]), .ro z.2 (i8s [2, 3, 4, 5])] ++ List.replicate 86 .any
theorem wf_i8s {l : List Int} {n : Nat} : ∀ v ∈ i8s l, WF n v := by
  intro v hv; simp only [i8s, List.mem_map] at hv; obtain ⟨_, _, rfl⟩ := hv; exact WF_int
theorem wf_u64s {l : List Int} {n : Nat} : ∀ v ∈ u64s l, WF n v := by
  intro v hv; simp only [u64s, List.mem_map] at hv; obtain ⟨_, _, rfl⟩ := hv; exact WF_int
theorem padL_get (z : Nat × Nat) {i : Nat} {o : AO} (h : (padL z)[i]? = some o) : o = .any ∨ o ∈ (padL z).take 14 := by
  by_cases hi : i < 14
  · refine .inr (List.mem_of_getElem? (i := i) ?_)
    rw [List.getElem?_take, if_pos hi]; exact h
  · left
    unfold padL at h
    rw [List.getElem?_append_right (by simp; omega)] at h
    exact List.eq_of_mem_replicate (List.mem_of_getElem? h)
noncomputable def Tz (z : Nat × Nat) : Cx where
  P := Tryz.prog
  ng := 12
  pad := padL z
  len := by simp [padL]
  ngl := by omega
  ro := fun i o h => by
    rcases padL_get z h with rfl | h
    · rfl
    · simp [padL] at h; rcases h with rfl | rfl | rfl | rfl | rfl | rfl | rfl | rfl | rfl | rfl | rfl <;> rfl
  wf := fun i b c h => by
    rcases padL_get z h with h | h
    · cases h
    · simp only [padL, List.take_append, List.take_of_length_le, List.length_cons, List.length_nil, Nat.reduceAdd, Nat.le_refl, Nat.sub_self, List.take_zero, List.append_nil, List.mem_cons, List.not_mem_nil, or_false, AO.ro.injEq, reduceCtorEq, false_or] at h
      rcases h with ⟨_, rfl⟩ | ⟨_, rfl⟩ | ⟨_, rfl⟩ | ⟨_, rfl⟩ | ⟨_, rfl⟩ | ⟨_, rfl⟩ | ⟨_, rfl⟩ | ⟨_, rfl⟩ | ⟨_, rfl⟩ | ⟨_, rfl⟩ <;> first | exact wf_u64s | exact wf_i8s | (intro v hv; simp only [List.mem_singleton] at hv; subst hv; exact fun ρ ρ' e => by simp [e 12 (by omega), e 13 (by omega)])
  mixed := by kernel_rfl
theorem Tz_P (z : Nat × Nat) : (Tz z).P = Tryz.prog := rfl
theorem Tz_ng (z : Nat × Nat) : (Tz z).ng = 12 := rfl
theorem pad0 (z : Nat × Nat) : (Tz z).pad[0]? = some (.ro 0 [.slice (some ⟨12, z.1, none⟩) 12 12]) := rfl
theorem pad1 (z : Nat × Nat) : (Tz z).pad[1]? = some (.ro 0 [.slice (some ⟨13, z.2, none⟩) 4 4]) := rfl
theorem pad2 (z : Nat × Nat) : (Tz z).pad[2]? = some (.ro 0 (u64s bbKnightMoves)) := rfl
theorem pad3 (z : Nat × Nat) : (Tz z).pad[3]? = some (.ro 0 (u64s bbKingMoves)) := rfl
theorem pad4 (z : Nat × Nat) : (Tz z).pad[4]? = some (.ro 0 (u64s bbDiagonals)) := rfl
theorem pad5 (z : Nat × Nat) : (Tz z).pad[5]? = some (.ro 0 (u64s bbAntiDiagonals)) := rfl
theorem pad6 (z : Nat × Nat) : (Tz z).pad[6]? = some (.ro 0 (u64s bbRanks)) := rfl
theorem pad7 (z : Nat × Nat) : (Tz z).pad[7]? = some (.ro 0 (u64s bbFiles)) := rfl
theorem pad12 (z : Nat × Nat) : (Tz z).pad[12]? = some (.ro z.1 (i8s [1, 2, 3, 4, 5, 6, 7, 8, 9, 10, 11, 12])) := rfl
theorem pad13 (z : Nat × Nat) : (Tz z).pad[13]? = some (.ro z.2 (i8s [2, 3, 4, 5])) := rfl
attribute [go_sem] Tz_P Tz_ng pad0 pad1 pad2 pad3 pad4 pad5 pad6 pad7 pad12 pad13
end Go.Tb
end
