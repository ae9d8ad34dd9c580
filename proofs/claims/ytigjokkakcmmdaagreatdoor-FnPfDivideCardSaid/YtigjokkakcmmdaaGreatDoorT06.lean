/-
  A part of the proof (my own): of the texts that the claim's last text rests on: parts Draw.
-/
import Derived.Test.YtigjokkakcmmdaaGreatDoorT05
set_option linter.unusedSimpArgs false
set_option linter.unusedVariables false
section
namespace Go.Tb
open Go
section
variable {P : Program} {ops : Array Oper} {md : Region.Mode} {σ : Type} {C : σ → World → Prop} {eff : Nat → Bool}
def EY (P : Program) (C : σ → World → Prop) (o : Oper) (a : Act) (s : σ) (K : Value → σ → Prop) : Prop := ∀ w, C s w → match (execOp a.eval o).run P w with
  | .ok (.value v) w' => ∃ s', C s' w' ∧ K v s'
  | .ok .skip w' => ∃ s', C s' w' ∧ K undef s'
  | .ok (.enter f args) w' => Calls P f args w' fun e w'' => ∃ v s', e = .returned v ∧ C s' w'' ∧ K v s'
  | .ok (.row row args) w' => Rows P row args w' fun v w'' => ∃ s', C s' w'' ∧ K v s'
  | _ => False
theorem EY.mono {o : Oper} {a : Act} {s : σ} {K K' : Value → σ → Prop} (h : EY P C o a s K) (hk : ∀ v s, K v s → K' v s) : EY P C o a s K' := fun w hw => by
  have := h w hw
  split at this
  · obtain ⟨s', h1, h2⟩ := this; exact ⟨s', h1, hk _ _ h2⟩
  · obtain ⟨s', h1, h2⟩ := this; exact ⟨s', h1, hk _ _ h2⟩
  · exact this.mono fun e w'' ⟨v, s', e1, h1, h2⟩ => ⟨v, s', e1, h1, hk _ _ h2⟩
  · exact Rows.mono this fun v w'' ⟨s', h1, h2⟩ => ⟨s', h1, hk _ _ h2⟩
  · exact this.elim
theorem EY.same {o : Oper} {a a' : Act} {s : σ} {K : Value → σ → Prop} (h : EY P C o a s K) (he : execOp a'.eval o = execOp a.eval o) : EY P C o a' s K := fun w hw => by
  rw [he]; exact h w hw
theorem EY.wp {o : Oper} {a : Act} {s : σ} {K : Value → σ → Prop} (h : EY P C o a s K) {w : World} (hw : C s w) {K' : Act → World → Prop} {Q : Exit → Act → World → Prop} (hk : ∀ v s' w', C s' w' → K v s' → K' (a.put o.dst v) w') : o.wp P a w K' Q := by
  have := h w hw
  unfold Oper.wp
  generalize (execOp a.eval o).run P w = r at *
  cases r with
  | ok n w' =>
    cases n <;> simp only [Oper.upon] at this ⊢
    case value v => obtain ⟨s', h1, h2⟩ := this; exact hk _ _ _ h1 h2
    case skip => obtain ⟨s', h1, h2⟩ := this; exact hk _ _ _ h1 h2
    case enter f args => exact this.mono fun e w'' ⟨v, s', e1, h1, h2⟩ => by subst e1; exact hk _ _ _ h1 h2
    case row row args => exact Rows.mono this fun v w'' ⟨s', h1, h2⟩ => hk _ _ _ h1 h2
  | halt x w' => exact this.elim
theorem EY.of_wp {o : Oper} {a : Act} {s : σ} {K : Act → σ → Prop} (hdef : ∀ a' s', K a' s' → a'.defers = a.defers)
    (h : ∀ w, C s w → o.wp P a w (fun a' w' => ∃ s', C s' w' ∧ K a' s') fun _ _ _ => False) : EY P C o a s fun v s' => K (a.put o.dst v) s' := fun w hw => by
  have := h w hw
  unfold Oper.wp at this
  generalize (execOp a.eval o).run P w = r at *
  cases r with
  | ok n w' =>
    cases n <;> simp only [Oper.upon] at this ⊢
    case value v => exact this
    case skip => exact this
    case defer d =>
      obtain ⟨s', h1, h2⟩ := this
      have := hdef _ _ h2
      cases hd : o.dst <;> simp [hd, Act.put] at this
    case enter f args => exact this.mono fun e w'' he => by
                            cases e with
                            | returned v => obtain ⟨s', h1, h2⟩ := he; exact ⟨v, s', rfl, h1, h2⟩
                            | panicked c => exact he.elim
                            | outgrown => obtain ⟨_, _, h⟩ := he; exact h.elim
    case row row args => exact this
  | halt x w' => cases x <;> simp only [Oper.upon] at this
def eOp (P : Program) (ops : Array Oper) (C : σ → World → Prop) (i : Nat) (K : Act → σ → Prop) (a : Act) (s : σ) : Prop :=
  match ops[i]? with
  | none => K a s
  | some o => if Region.wanted o (yielded ops a.tmps) then EY P C o a s fun v s' => K (a.put o.dst v) s' else K (a.put o.dst undef) s
theorem eOp_mono {i : Nat} {a : Act} {s : σ} {K K' : Act → σ → Prop} (h : ∀ a s, K a s → K' a s) (hh : eOp P ops C i K a s) : eOp P ops C i K' a s := by
  unfold eOp at *
  split
  · exact h _ _ (by simpa [*] using hh)
  · rename_i o ho
    simp only [ho] at hh
    split
    · rename_i hw; simp only [hw, if_true] at hh; exact hh.mono fun v s k => h _ _ k
    · rename_i hw; simp only [hw] at hh; exact h _ _ hh
theorem wpOp_of_eOp {i : Nat} {a : Act} {s : σ} {K : Act → σ → Prop} {K' : Act → World → Prop} {Q' : Exit → Act → World → Prop} {w : World} (hC : C s w) (h : ∀ a s w', C s w' → K a s → K' a w') (hh : eOp P ops C i K a s) : wpOp P ops Q' i K' a w := by
  unfold eOp at hh
  unfold wpOp
  split
  · rename_i ho; simp only [ho] at hh; exact h _ _ _ hC hh
  · rename_i o ho
    simp only [ho] at hh
    split
    · rename_i hw; simp only [hw, if_true] at hh; exact .inl (hh.wp hC fun v s' w' h1 h2 => h _ _ _ h1 h2)
    · rename_i hw; simp only [hw] at hh; exact h _ _ _ hC hh
def reach (md : Region.Mode) (ops : Array Oper) : Nat → Nat → Nat → Bool
  | 0, _, _ => false
  | n + 1, j, i => match ops[j]? with
    | some o => o.after.any fun e => Region.binds md e && (e.on == i || reach md ops n e.on i)
    | none => false
def Inv (md : Region.Mode) (ops : Array Oper) (listed : Array Bool) : Prop := ∀ (j : Nat) (o : Oper), ops[j]? = some o → listed.getD j false = true → ∀ e ∈ o.after, Region.binds md e = true → listed.getD e.on false = true
theorem reach_listed {listed : Array Bool} (hi : Inv md ops listed) : ∀ (n j i : Nat) (o : Oper), ops[j]? = some o → (∀ e ∈ o.after, Region.binds md e = true → listed.getD e.on false = true) → reach md ops n j i = true → listed.getD i false = true
  | 0, _, _, _, _, _, h => by simp [reach] at h
  | n + 1, j, i, o, ho, ha, h => by
    simp only [reach, ho] at h
    obtain ⟨e, he, hb⟩ := Array.any_eq_true'.1 h
    simp only [Bool.and_eq_true, Bool.or_eq_true, beq_iff_eq] at hb
    obtain ⟨h1, h2⟩ := hb
    rcases h2 with h2 | h2
    · rw [← h2]; exact ha e he h1
    · cases hq : ops[e.on]? with
      | none => cases n <;> simp [reach, hq] at h2
      | some q => exact reach_listed hi n e.on i q hq (hi e.on q hq (ha e he h1)) h2
theorem Inv.set {listed : Array Bool} (hi : Inv md ops listed) {i : Nat} (hr : i ∈ Region.ready md ops listed) : Inv md ops (listed.setIfInBounds i true) := fun j o ho hl e he hb => by
  by_cases hji : j = i
  · subst hji
    obtain ⟨_, o', ho', ha⟩ := mem_ready.1 hr
    rw [ho] at ho'; simp only [Option.some.injEq] at ho'; subst ho'
    exact getD_set_true (ha e he hb)
  · rw [getD_set_ne false (Ne.symm hji)] at hl
    exact getD_set_true (hi j o ho hl e he hb)
def dep (md : Region.Mode) (ops : Array Oper) (j i : Nat) : Bool := reach md ops ops.size j i
abbrev Acc (σ : Type) := List (Nat × (σ → Prop))
def eAny (P : Program) (md : Region.Mode) (ops : Array Oper) (C : σ → World → Prop) (eff : Nat → Bool) (K : Act → σ → Prop) : Nat → Array Bool → Acc σ → Act → σ → Prop
  | 0, listed, _, a, s => Region.ready md ops listed = [] ∧ K a s
  | fuel + 1, listed, acc, a, s => (Region.ready md ops listed = [] → K a s) ∧ ∀ i ∈ Region.ready md ops listed,
      if eff i = true then eOp P ops C i (fun a' s' => (∀ p ∈ acc, dep md ops i p.1 = false → p.2 s') ∧ eAny P md ops C eff K fuel (listed.setIfInBounds i true) acc a' s') a s
      else qOp P ops (C s) i (fun a' => eAny P md ops C eff K fuel (listed.setIfInBounds i true) acc a' s) a
theorem eAny_acc {K : Act → σ → Prop} : ∀ (fuel : Nat) (listed : Array Bool) (acc acc' : Acc σ) (a : Act) (s : σ), (∀ p ∈ acc', p ∈ acc) → eAny P md ops C eff K fuel listed acc a s → eAny P md ops C eff K fuel listed acc' a s
  | 0, _, _, _, _, _, _, h => h
  | fuel + 1, listed, acc, acc', a, s, hs, h => ⟨h.1, fun i hi => by
    have := h.2 i hi
    split at this
    · rename_i he; rw [if_pos he]
      exact eOp_mono (fun a s ⟨h1, h2⟩ => ⟨fun p hp => h1 p (hs p hp), eAny_acc fuel _ acc acc' a s hs h2⟩) this
    · rename_i he; rw [if_neg he]
      exact qOp_mono (fun a h2 => eAny_acc fuel _ acc acc' a s hs h2) this⟩
theorem wpAny_of_eAny {K : Act → σ → Prop} {Q : Exit → Act → World → Prop} (hQ : ∀ a s w, C s w → K a s → Q .normal a w) : ∀ (fuel : Nat) (listed : Array Bool) (acc : Acc σ) (a : Act) (s : σ) (w : World), C s w → eAny P md ops C eff K fuel listed acc a s → wpAny P md ops Q fuel listed a w
  | 0, _, _, _, _, _, hw, h => ⟨h.1, hQ _ _ _ hw h.2⟩
  | fuel + 1, listed, acc, a, s, w, hw, h => ⟨fun h0 => hQ _ _ _ hw (h.1 h0), fun i hi => by
    have := h.2 i hi
    split at this
    · exact wpOp_of_eOp hw (fun a' s' w' hw' hk => wpAny_of_eAny hQ fuel _ acc a' s' w' hw' hk.2) this
    · exact wpOp_of_qOp hw (fun a' w' hw' hk => wpAny_of_eAny hQ fuel _ acc a' s w' hw' hk) this⟩
theorem eAny_first {K : Act → σ → Prop} {i : Nat} {oi : Oper} {v : Value} (hi : ops[i]? = some oi) (hq : eff i = false) (hsel : ∀ (j : Nat) (o : Oper) cs b, ops[j]? = some o → o.op ≠ .select cs b) :
    ∀ (fuel : Nat) (listed : Array Bool) (acc : Acc σ) (a : Act) (s : σ), Inv md ops listed →
      (∀ j oj, ops[j]? = some oj → j ≠ i → listed.getD j true = false → (∀ e ∈ oj.after, Region.binds md e = true → e.on ≠ i) → oi.apart ops oj = true) →
      i ∈ Region.ready md ops listed → YieldsIn P ops (C s) oi v a →
      eAny P md ops C eff K fuel (listed.setIfInBounds i true) ((i, fun s' => YieldsIn P ops (C s') oi v a) :: acc) (a.put oi.dst v) s → eAny P md ops C eff K (fuel + 1) listed acc a s := by
  intro fuel
  induction fuel with
  | zero =>
    intro listed acc a s _ _ hr hy H
    refine ⟨fun h => (by rw [h] at hr; cases hr), fun j hj => ?_⟩
    by_cases hji : j = i
    · subst hji; rw [if_neg (by simp [hq])]; exact hy.qOp hi H
    · have := ready_mono hj hji
      rw [H.1] at this
      cases this
  | succ fuel ih =>
    intro listed acc a s hinv hfree hr hy H
    refine ⟨fun h => (by rw [h] at hr; cases hr), fun j hj => ?_⟩
    by_cases hji : j = i
    · subst hji; rw [if_neg (by simp [hq])]
      exact hy.qOp hi (eAny_acc _ _ _ _ _ _ (fun p hp => List.mem_cons_of_mem _ hp) H)
    · have h1 := H.2 j (ready_mono hj hji)
      obtain ⟨hjun, oj, hoj, hall⟩ := mem_ready.1 hj
      have hiun := (mem_ready.1 hr).1
      have hcontra : listed.getD i false = true → False := fun h1 => by
        rcases Nat.lt_or_ge i listed.size with h' | h'
        · simp [h'] at hiun h1; rw [hiun] at h1; cases h1
        · simp [Array.getElem?_eq_none h'] at h1
      have hnot : ∀ e ∈ oj.after, Region.binds md e = true → e.on ≠ i := fun e he hb heq => hcontra (heq ▸ hall e he hb)
      have hdep : dep md ops j i = false := by
        cases hd : dep md ops j i with
        | false => rfl
        | true => exact (hcontra (reach_listed hinv _ j i oj hoj hall hd)).elim
      have hap := hfree j oj hoj hji hjun hnot
      obtain ⟨a1, a2, a3⟩ := Oper.apart_spec hap
      have hsi : ∀ cs b, oi.op ≠ .select cs b := fun cs b => hsel i oi cs b hi
      have hsj : ∀ cs b, oj.op ≠ .select cs b := fun cs b => hsel j oj cs b hoj
      have keep : ∀ u s', YieldsIn P ops (C s') oi v (a.put oj.dst u) ↔ YieldsIn P ops (C s') oi v a := fun u s' =>
        ⟨fun hy => hy.of_same (execOp_put oi hsi a oj.dst u a3).symm (wanted_put oi a oj.dst u a3).symm, fun hy => hy.of_same (execOp_put oi hsi a oj.dst u a3) (wanted_put oi a oj.dst u a3)⟩
      have keepF : ∀ u, (fun s' => YieldsIn P ops (C s') oi v (a.put oj.dst u)) = (fun s' => YieldsIn P ops (C s') oi v a) := fun u => funext fun s' => propext (keep u s')
      have hfree' : ∀ k ok, ops[k]? = some ok → k ≠ i → (listed.setIfInBounds j true).getD k true = false →
          (∀ e ∈ ok.after, Region.binds md e = true → e.on ≠ i) → oi.apart ops ok = true := fun k ok hk hki hun hno => by
        refine hfree k ok hk hki ?_ hno
        by_cases hjk : j = k
        · subst hjk; exact hjun
        · rw [getD_set_ne true hjk] at hun; exact hun
      have next : ∀ u s', YieldsIn P ops (C s') oi v a → eAny P md ops C eff K fuel ((listed.setIfInBounds i true).setIfInBounds j true) ((i, fun s' => YieldsIn P ops (C s') oi v a) :: acc) ((a.put oi.dst v).put oj.dst u) s' →
          eAny P md ops C eff K (fuel + 1) (listed.setIfInBounds j true) acc (a.put oj.dst u) s' := fun u s' hy' h3 => by
        refine ih (listed.setIfInBounds j true) acc (a.put oj.dst u) s' (hinv.set hj) hfree' (ready_mono hr (Ne.symm hji)) ((keep u s').2 hy') ?_
        rw [keepF, Array.setIfInBounds_comm _ _ hji, ← Act.put_comm a v u a2]
        exact h3
      split at h1
      · rename_i he
        rw [if_pos he]
        unfold eOp at h1 ⊢
        simp only [hoj] at h1 ⊢
        rw [wanted_put oj a oi.dst v a1] at h1
        split
        · rename_i hw
          simp only [hw, if_true] at h1
          refine (h1.same (execOp_put oj hsj a oi.dst v a1).symm).mono fun u s' ⟨g1, g2⟩ => ?_
          exact ⟨fun p hp => g1 p (List.mem_cons_of_mem _ hp), next u s' (g1 _ List.mem_cons_self hdep) g2⟩
        · rename_i hw
          simp only [hw] at h1
          obtain ⟨g1, g2⟩ := h1
          exact ⟨fun p hp => g1 p (List.mem_cons_of_mem _ hp), next undef s hy g2⟩
      · rename_i he
        rw [if_neg he]
        obtain ⟨u, hu, hk⟩ := yieldsIn_of_qOp hoj h1
        have hu' : YieldsIn P ops (C s) oj u a := hu.of_same (execOp_put oj hsj a oi.dst v a1).symm (wanted_put oj a oi.dst v a1).symm
        exact hu'.qOp hoj (next u s hy hk)
def piB (md : Region.Mode) (ops : Array Oper) (eff : Nat → Bool) : List Nat → Array Bool → Bool
  | [], listed => (Region.ready md ops listed).isEmpty
  | i :: rest, listed => (if eff i then Region.ready md ops listed == [i] else (Region.ready md ops listed).contains i && Region.free md ops listed i) && piB md ops eff rest (listed.setIfInBounds i true)
def piW (P : Program) (md : Region.Mode) (ops : Array Oper) (C : σ → World → Prop) (eff : Nat → Bool) (K : Act → σ → Prop) : List Nat → Acc σ → Act → σ → Prop
  | [], _, a, s => K a s
  | i :: rest, acc, a, s => if eff i then eOp P ops C i (fun a' s' => (∀ p ∈ acc, dep md ops i p.1 = false → p.2 s') ∧ piW P md ops C eff K rest acc a' s') a s
      else ∃ o v, ops[i]? = some o ∧ YieldsIn P ops (C s) o v a ∧ piW P md ops C eff K rest ((i, fun s' => YieldsIn P ops (C s') o v a) :: acc) (a.put o.dst v) s
theorem eAny_of_pi {K : Act → σ → Prop} (hs : Region.noSelect ops = true) : ∀ (l : List Nat) (listed : Array Bool) (acc : Acc σ) (a : Act) (s : σ), Inv md ops listed → piB md ops eff l listed = true → piW P md ops C eff K l acc a s → eAny P md ops C eff K l.length listed acc a s
  | [], _, _, _, _, _, hB, h => ⟨by simpa [piB] using hB, h⟩
  | i :: rest, listed, acc, a, s, hinv, hB, h => by
    simp only [piB, Bool.and_eq_true] at hB
    obtain ⟨h1, h2⟩ := hB
    simp only [piW] at h
    split at h
    · rename_i he
      rw [if_pos he] at h1
      have hr : Region.ready md ops listed = [i] := by simpa using h1
      refine ⟨fun h0 => absurd (hr ▸ h0) (by simp), fun j hj => ?_⟩
      rw [hr] at hj
      simp only [List.mem_singleton] at hj
      subst hj
      rw [if_pos he]
      have hri : j ∈ Region.ready md ops listed := by rw [hr]; simp
      exact eOp_mono (fun a' s' ⟨g1, g2⟩ => ⟨g1, eAny_of_pi hs rest _ acc a' s' (hinv.set hri) h2 g2⟩) h
    · rename_i he
      rw [if_neg he] at h1
      simp only [Bool.and_eq_true] at h1
      obtain ⟨o, v, ho, hy, hk⟩ := h
      have hri : i ∈ Region.ready md ops listed := by simpa using h1.1
      exact eAny_first ho (by simpa using he) (Region.noSelect_spec hs) rest.length listed acc a s hinv (Region.free_spec ho h1.2) hri hy (eAny_of_pi hs rest _ _ _ s (hinv.set hri) h2 hk)
theorem wp_region_pi {id : Nat} {Q : Exit → Act → World → Prop} {K : Act → σ → Prop} {a : Act} {s : σ} {w : World} (l : List Nat) (hl : l.length = ops.size) (hm : P.follows .mixedOrders = true) (hs : Region.noSelect ops = true) (hB : piB .any ops eff l (Array.replicate ops.size false) = true)
    (hC : C s { w with drawn := w.drawn + 1 }) (hQ : ∀ a s w, C s w → K a s → Q .normal a w) (h : piW P .any ops C eff K l [] a s) : (Code.region id ops true).wp P Q a w := by
  refine wp_region_any hm (wpAny_of_eAny (C := C) (eff := eff) (K := K) hQ _ _ [] a s _ hC ?_)
  rw [← hl]
  refine eAny_of_pi hs l _ [] a s (fun j o _ hj => ?_) (by rw [hl]; exact hB) h
  rw [hl] at hj
  rcases Nat.lt_or_ge j ops.size with hlt | hge
  · simp [hlt] at hj
  · simp [Nat.not_lt.2 hge] at hj
end
inductive Step where
  | q
  | r
  | e (js : List Nat)
abbrev AccA := List (Nat × (List AO → Prop))
def pend (j : Nat) : AccA → List AO → Prop
  | [], _ => True
  | (i, b) :: r, L => (if i = j then b L else True) ∧ pend j r L
def chk : List Nat → AccA → List AO → Prop
  | [], _, _ => True
  | j :: js, acc, L => pend j acc L ∧ chk js acc L
theorem pend_spec {j : Nat} {L : List AO} : ∀ {acc : AccA}, pend j acc L → ∀ p ∈ acc, p.1 = j → p.2 L
  | _ :: _, h, p, hp, e => by
    cases hp with
    | head => have := h.1; rw [if_pos e] at this; exact this
    | tail _ hp => exact pend_spec h.2 p hp e
def obl (X : Cx) (fr : Fr) (op : Op) (v : Value) : List AO → Prop := fun L' => wpQ X fr L' op fun u => u = v
def wpPi (X : Cx) (all : List Oper) : List (Nat × Step) → AccA → Fr → List AO → (Fr → List AO → Prop) → Prop
  | [], _, fr, L, K => K fr L
  | (i, s) :: rest, acc, fr, L, K => match all[i]? with
    | none => False
    | some o =>
      let go : Prop := match s with
        | .q => wpQ X fr L o.op fun v => wpPi X all rest acc (fr.put o.dst v) L K
        | .r => wpQ X fr L o.op fun v => wpPi X all rest ((i, obl X fr o.op v) :: acc) (fr.put o.dst v) L K
        | .e js => wpO X fr L o.op fun v L' => chk js acc L' ∧ wpPi X all rest acc (fr.put o.dst v) L' K
      let no : Prop := match s with
        | .e js => chk js acc L
        | _ => True
      match o.guard with
      | none => go
      | some (j, want) => onG (gd all fr j) want go (no ∧ wpPi X all rest acc (fr.put o.dst (.tuple #[])) L K)
def noMem : Op → Bool
  | .load .. => false
  | .call { callee := .value _, .. } => false
  | _ => true
def effOf (π : List (Nat × Step)) (i : Nat) : Bool := π.any fun p => p.1 == i && match p.2 with | .e _ => true | _ => false
def planB (ops : Array Oper) : List (Nat × Step) → List Nat → Bool
  | [], _ => true
  | (i, .q) :: rest, rs => ((ops[i]?).map fun o => noMem o.op).getD false && planB ops rest rs
  | (i, .r) :: rest, rs => planB ops rest (i :: rs)
  | (i, .e js) :: rest, rs => rs.all (fun j => js.contains j || dep .any ops i j) && planB ops rest rs
def drawB (ops : Array Oper) (π : List (Nat × Step)) : Bool :=
  Region.noSelect ops && π.length == ops.size && planB ops π [] && piB .any ops (effOf π) (π.map (·.1)) (Array.replicate ops.size false) && π.all (fun p => match p.2 with | .e _ => true | _ => !effOf π p.1)
section
variable {X : Cx} {N n0 : Nat} {D : List Deferred} {ρ : Nat → Nat} {L : List AO} {fr : Fr} {a : Act}
abbrev St := (Nat → Nat) × List AO
def CS (X : Cx) (ρ0 : Nat → Nat) (L0 : List AO) (w0 : World) : St → World → Prop := fun s w => Sim X.ng s.1 (X.pad ++ s.2) w ∧ Ext ρ0 (X.pad ++ L0) w0 s.1 (X.pad ++ s.2) w
theorem wpQ_yield {o : Oper} {K : Value → Prop} (hq : wpQ X fr L o.op K) (hf : FRel N D ρ (X.pad ++ L).length fr a) {ws : World} (hs : Sim X.ng ρ (X.pad ++ L) ws) (ρ0 : Nat → Nat) (L0 : List AO) (w0 : World) :
    ∃ v, K v ∧ WF (X.pad ++ L).length v ∧ ∀ w', CS X ρ0 L0 w0 (ρ, L) w' → o.quietAt X.P a (CS X ρ0 L0 w0 (ρ, L)) w' (rl ρ v) := by
  obtain ⟨dst, op, type, pos, after, guard⟩ := o
  have ev : ∀ {x : Operand} {v : Value}, evO X.ng fr x = some v → a.eval x = rl ρ v ∧ WF (X.pad ++ L).length v := fun h => evO_sound hs hf h
  simp only at hq
  unfold wpQ at hq
  split at hq
  · rename_i t x
    obtain ⟨v, hv, hk⟩ := onV_spec hq
    cases hx : evO X.ng fr x with
    | none => simp [hx] at hv
    | some p =>
      simp only [hx, Option.bind_some] at hv
      rw [← rdL_eq] at hv
      obtain ⟨e, hw⟩ := ev hx
      refine ⟨v, hk, (rdM_sound hs hv).2, fun w' hw' => ?_⟩
      unfold Oper.quietAt
      have : (execOp a.eval ⟨dst, .load t x, type, pos, after, guard⟩).run X.P w' = .ok (.value (rl ρ v)) w' := by simp [execOp, e, (rdM_sound hw'.1 hv).1]
      rw [this]; exact ⟨rfl, rfl⟩
  · rename_i f args _
    obtain ⟨g, hg, hq⟩ := onV_spec hq
    obtain ⟨vs, hvs, hcall⟩ := onV_spec hq
    cases hx : evO X.ng fr f with
    | none => simp [hx] at hg
    | some fv =>
      simp only [hx, Option.bind_some] at hg
      obtain ⟨e, hw⟩ := ev hx
      obtain ⟨he, hwv⟩ := evs_sound hs hf hvs
      have hfv := fnOf_spec hg
      subst hfv
      rw [rl_func] at e
      have hwall : ∀ v ∈ g.2.1 ++ vs ++ g.2.2, WF (X.pad ++ L).length v := by
        have hin : ∀ v ∈ g.2.1 ++ g.2.2, WF (X.pad ++ L).length v := by
          intro v hv ρ1 ρ2 hr
          have := hw ρ1 ρ2 hr
          simp only [rl_func, Value.func.injEq, true_and] at this
          obtain ⟨t1, t2⟩ := this
          have t1 : g.2.1.map (rl ρ1) = g.2.1.map (rl ρ2) := by simpa using congrArg Array.toList t1
          have t2 : g.2.2.map (rl ρ1) = g.2.2.map (rl ρ2) := by simpa using congrArg Array.toList t2
          rcases List.mem_append.1 hv with hv | hv
          · exact List.map_inj_left.1 t1 v hv
          · exact List.map_inj_left.1 t2 v hv
        intro v hv
        simp only [List.mem_append] at hv
        rcases hv with (hv | hv) | hv
        · exact hin v (List.mem_append_left _ hv)
        · exact hwv v hv
        · exact hin v (List.mem_append_right _ hv)
      obtain ⟨hok, v, hk, hvw, hc⟩ := hcall
      refine ⟨v, hk, hvw, fun w' hw' => ?_⟩
      have hrun := run_call (P := X.P) (args := args) (tys := ‹_›) (dst := dst) (ty := type) (pos := pos) (after := after) (guard := guard) e hok w'
      unfold Oper.quietAt
      rw [hrun]
      refine ⟨rfl, ?_⟩
      have hargs : (g.2.1.toArray.map (rl ρ) ++ args.map a.eval ++ g.2.2.toArray.map (rl ρ)) = ((g.2.1 ++ vs ++ g.2.2).map (rl ρ)).toArray := by
        apply Array.toList_inj.1
        simp [he]
      rw [hargs]
      exact (hc ρ w' hw'.1 hwall).mono fun e1 w2 ⟨h1, h2, h3⟩ => ⟨h1, h2, hw'.2.trans h3⟩
  · rename_i t parts
    obtain ⟨v, hv, hk⟩ := onV_spec hq
    cases hp : pts X.ng fr parts.toList with
    | none => simp [hp] at hv
    | some ps =>
      simp only [hp, Option.bind_some] at hv
      obtain ⟨he, hwp⟩ := pts_sound hs hf hp
      have e1 : parts.map (fun p => (p.1, a.eval p.2)) = (ps.map fun p => (p.1, rl ρ p.2)).toArray := by apply Array.toList_inj.1; simpa using he
      refine ⟨v, hk, (buildV_sound (ρ := ρ) hv ws).2 _ hwp, fun w' hw' => ?_⟩
      unfold Oper.quietAt
      have : (execOp a.eval ⟨dst, .build t parts, type, pos, after, guard⟩).run X.P w' = .ok (.value (rl ρ v)) w' := by simp [execOp, e1, (buildV_sound (ρ := ρ) hv w').1]
      rw [this]; exact ⟨rfl, rfl⟩
  · obtain ⟨v, hv, hk⟩ := onV_spec hq
    obtain ⟨h1, h2⟩ := pureV_sound (o := ⟨dst, op, type, pos, after, guard⟩) hv hs hf
    refine ⟨v, hk, h2, fun w' hw' => ?_⟩
    unfold Oper.quietAt
    rw [h1 w']; exact ⟨rfl, rfl⟩
theorem wpQ_split {op : Op} {K : Value → Prop} (hq : wpQ X fr L op K) : ∃ v, K v ∧ wpQ X fr L op fun u => u = v := by
  unfold wpQ at hq ⊢
  split at hq
  · obtain ⟨v, hv, hk⟩ := onV_spec hq
    exact ⟨v, hk, by rw [hv]; exact rfl⟩
  · obtain ⟨g, hg, hq⟩ := onV_spec hq
    obtain ⟨vs, hvs, hc⟩ := onV_spec hq
    obtain ⟨h1, v, hk, h2⟩ := hc
    exact ⟨v, hk, by rw [hg, hvs]; exact ⟨h1, v, rfl, h2⟩⟩
  · obtain ⟨v, hv, hk⟩ := onV_spec hq
    exact ⟨v, hk, by rw [hv]; exact rfl⟩
  · obtain ⟨v, hv, hk⟩ := onV_spec hq
    exact ⟨v, hk, by rw [hv]; exact rfl⟩
theorem wpQ_pure {op : Op} (h : noMem op = true) (L' : List AO) (K : Value → Prop) : wpQ X fr L op K ↔ wpQ X fr L' op K := by
  unfold wpQ
  split
  · simp [noMem] at h
  · simp [noMem] at h
  · rfl
  · rfl
def On (X : Cx) (s t : St) : Prop := (X.pad ++ s.2).length ≤ (X.pad ++ t.2).length ∧ ∀ i, i < (X.pad ++ s.2).length → t.1 i = s.1 i
theorem On.refl (s : St) : On X s s := ⟨Nat.le_refl _, fun _ _ => rfl⟩
theorem On.trans {s t u : St} (h : On X s t) (k : On X t u) : On X s u := ⟨Nat.le_trans h.1 k.1, fun i hi => (k.2 i (Nat.lt_of_lt_of_le hi h.1)).trans (h.2 i hi)⟩
def Held (X : Cx) (ρ0 : Nat → Nat) (L0 : List AO) (w0 : World) (rs : List Nat) (accA : AccA) (acc : Acc St) (s : St) : Prop :=
  ∀ p ∈ acc, (∀ t, On X s t → p.2 t) ∨ (p.1 ∈ rs ∧ ∃ q ∈ accA, q.1 = p.1 ∧ ∀ t, On X s t → q.2 t.2 → p.2 t)
theorem Held.on {ρ0 : Nat → Nat} {L0 : List AO} {w0 : World} {rs : List Nat} {accA : AccA} {acc : Acc St} {s t : St} (h : Held X ρ0 L0 w0 rs accA acc s) (k : On X s t) : Held X ρ0 L0 w0 rs accA acc t := fun p hp => by
  rcases h p hp with h1 | ⟨h1, q, h2, h3, h4⟩
  · exact .inl fun u hu => h1 u (k.trans hu)
  · exact .inr ⟨h1, q, h2, h3, fun u hu => h4 u (k.trans hu)⟩
theorem chk_spec {L' : List AO} {acc : AccA} : ∀ {js : List Nat}, chk js acc L' → ∀ j ∈ js, ∀ p ∈ acc, p.1 = j → p.2 L'
  | _ :: _, h, j, hj, p, hp, e => by
    cases hj with
    | head => exact pend_spec h.1 p hp e
    | tail _ hj => exact chk_spec h.2 j hj p hp e
theorem pi_sound {ops : Array Oper} {ρ0 : Nat → Nat} {L0 : List AO} {w0 : World} {eff : Nat → Bool} {K : Fr → List AO → Prop} (hd : ops.toList.all (dstIn N) = true) : ∀ (π : List (Nat × Step)) (rs : List Nat) (accA : AccA) (acc : Acc St) (fr : Fr) (L : List AO) (ρ : Nat → Nat) (a : Act),
    planB ops π rs = true → (∀ p ∈ π, eff p.1 = match p.2 with | .e _ => true | _ => false) → Held X ρ0 L0 w0 rs accA acc (ρ, L) → (∃ w, CS X ρ0 L0 w0 (ρ, L) w) → FRel N D ρ (X.pad ++ L).length fr a → wpPi X ops.toList π accA fr L K →
    piW X.P .any ops (CS X ρ0 L0 w0) eff (fun a' s' => ∃ fr', K fr' s'.2 ∧ FRel N D s'.1 (X.pad ++ s'.2).length fr' a') (π.map (·.1)) acc a (ρ, L)
  | [], rs, accA, acc, fr, L, ρ, a, _, _, _, _, hf, h => ⟨fr, h, hf⟩
  | (i, st) :: rest, rs, accA, acc, fr, L, ρ, a, hB, he, hh, hw, hf, h => by
    obtain ⟨ws, hws⟩ := hw
    have he1 := he (i, st) List.mem_cons_self
    have her := fun p hp => he p (List.mem_cons_of_mem _ hp)
    unfold wpPi at h
    have htl : ops.toList[i]? = ops[i]? := by simp
    rw [htl] at h
    cases ho : ops[i]? with
    | none => simp [ho] at h
    | some o =>
      simp only [ho] at h
      have hdi : dstIn N o = true := List.all_eq_true.1 hd o (by
        have : o ∈ ops := Array.mem_of_getElem? ho
        simpa using this)
      have hundef : FRel N D ρ (X.pad ++ L).length (fr.put o.dst (.tuple #[])) (a.put o.dst undef) := by
        have hp := hf.put (dstIn_spec hdi) (v := .tuple #[]) (fun _ _ _ => by simp)
        have e : rl ρ (.tuple #[]) = undef := by simp [undef]
        rwa [e] at hp
      have hgu : ∀ (G M : Prop), (match o.guard with | none => G | some (j, want) => onG (gd ops.toList fr j) want G (M ∧ wpPi X ops.toList rest accA (fr.put o.dst (.tuple #[])) L K)) →
          (Region.wanted o (yielded ops a.tmps) = true ∧ G) ∨ (Region.wanted o (yielded ops a.tmps) = false ∧ M ∧ wpPi X ops.toList rest accA (fr.put o.dst (.tuple #[])) L K) := fun G M hG => by
        split at hG
        · rename_i hg; exact .inl ⟨by simp [Region.wanted, hg], hG⟩
        · rename_i j want hg
          have hgw := onG_wanted (all := ops.toList) hf hg hG
          simpa only [Array.toArray_toList] using hgw
      have hh' : ∀ {q : St → Prop}, Held X ρ0 L0 w0 rs accA acc (ρ, L) → (∀ t, On X (ρ, L) t → q t) → Held X ρ0 L0 w0 rs accA ((i, q) :: acc) (ρ, L) := fun hh hq p hp => by
        cases hp with
        | head => exact .inl hq
        | tail _ hp => exact hh p hp
      have hhr : ∀ {q : St → Prop} {b : List AO → Prop}, Held X ρ0 L0 w0 rs accA acc (ρ, L) → (∀ t, On X (ρ, L) t → b t.2 → q t) → Held X ρ0 L0 w0 (i :: rs) ((i, b) :: accA) ((i, q) :: acc) (ρ, L) := fun hh hq p hp => by
        cases hp with
        | head => exact .inr ⟨List.mem_cons_self, _, List.mem_cons_self, rfl, hq⟩
        | tail _ hp =>
          rcases hh p hp with h1 | ⟨h1, q, h2, h3, h4⟩
          · exact .inl h1
          · exact .inr ⟨List.mem_cons_of_mem _ h1, q, List.mem_cons_of_mem _ h2, h3, h4⟩
      have hhrm : Held X ρ0 L0 w0 rs accA acc (ρ, L) → Held X ρ0 L0 w0 (i :: rs) accA acc (ρ, L) := fun hh p hp => by
        rcases hh p hp with h1 | ⟨h1, r⟩
        · exact .inl h1
        · exact .inr ⟨List.mem_cons_of_mem _ h1, r⟩
      have hyu : Region.wanted o (yielded ops a.tmps) = false → ∀ t : St, YieldsIn X.P ops (CS X ρ0 L0 w0 t) o undef a := fun hw t => .inr ⟨hw, rfl⟩
      have hyo : ∀ {v : Value} (t : St), On X (ρ, L) t → WF (X.pad ++ L).length v → Region.wanted o (yielded ops a.tmps) = true → wpQ X fr t.2 o.op (fun u => u = v) → YieldsIn X.P ops (CS X ρ0 L0 w0 t) o (rl ρ v) a := fun {v} t hon hwf hwt hq => by
        refine .inl ⟨hwt, fun w hw => ?_⟩
        obtain ⟨t1, t2⟩ := t
        have hft : FRel N D t1 (X.pad ++ t2).length fr a := hf.ext hon.1 hon.2
        obtain ⟨u, rfl, _, hqa⟩ := wpQ_yield hq hft hw.1 ρ0 L0 w0
        have := hqa w hw
        rwa [hwf t1 ρ (fun j hj => hon.2 j hj)] at this
      simp only [List.map_cons, piW]
      cases st with
      | q =>
        simp only at he1 h
        rw [if_neg (by simp [he1])]
        simp only [planB, Bool.and_eq_true] at hB
        have hnm : noMem o.op = true := by simpa [ho] using hB.1
        rcases hgu _ _ h with ⟨hwt, hq⟩ | ⟨hwf, hn, hr⟩
        · obtain ⟨v, hk, hq1⟩ := wpQ_split hq
          obtain ⟨u, rfl, hv, hqa⟩ := wpQ_yield hq1 hf hws.1 ρ0 L0 w0
          have hy : ∀ t, On X (ρ, L) t → YieldsIn X.P ops (CS X ρ0 L0 w0 t) o (rl ρ u) a := fun t hon => hyo t hon hv hwt ((wpQ_pure hnm t.2 _).1 hq1)
          exact ⟨o, rl ρ u, ho, hy _ (On.refl _), pi_sound hd rest rs accA _ _ L ρ _ hB.2 her (hh' hh hy) ⟨ws, hws⟩ (hf.put (dstIn_spec hdi) hv) hk⟩
        · exact ⟨o, undef, ho, hyu hwf _, pi_sound hd rest rs accA _ _ L ρ _ hB.2 her (hh' hh fun t _ => hyu hwf t) ⟨ws, hws⟩ hundef hr⟩
      | r =>
        simp only at he1 h
        rw [if_neg (by simp [he1])]
        simp only [planB] at hB
        rcases hgu _ _ h with ⟨hwt, hq⟩ | ⟨hwf, hn, hr⟩
        · obtain ⟨v, hk, hq1⟩ := wpQ_split hq
          obtain ⟨u, rfl, hv, hqa⟩ := wpQ_yield hq1 hf hws.1 ρ0 L0 w0
          refine ⟨o, rl ρ u, ho, hyo _ (On.refl _) hv hwt hq1, pi_sound hd rest (i :: rs) _ _ _ L ρ _ hB her (hhr hh fun t hon hob => ?_) ⟨ws, hws⟩ (hf.put (dstIn_spec hdi) hv) hk⟩
          exact hyo t hon hv hwt hob
        · refine ⟨o, undef, ho, hyu hwf _, pi_sound hd rest (i :: rs) accA _ _ L ρ _ hB her ?_ ⟨ws, hws⟩ hundef hr⟩
          intro p hp
          cases hp with
          | head => exact .inl fun t _ => hyu hwf t
          | tail _ hp => exact hhrm hh p hp
      | e js =>
        simp only at he1 h
        rw [if_pos (by simp [he1])]
        simp only [planB, Bool.and_eq_true] at hB
        unfold eOp
        simp only [ho]
        have hkeep : ∀ (s' : St), On X (ρ, L) s' → chk js accA s'.2 → ∀ p ∈ acc, dep .any ops i p.1 = false → p.2 s' := fun s' hon hc p hp hdp => by
          rcases hh p hp with h1 | ⟨h1, q, h2, h3, h4⟩
          · exact h1 _ hon
          · refine h4 _ hon (chk_spec hc p.1 ?_ q h2 h3)
            have := List.all_eq_true.1 hB.1 p.1 h1
            simpa [hdp] using this
        rcases hgu _ _ h with ⟨hwt, hq⟩ | ⟨hwf, hn, hr⟩
        · rw [if_pos hwt]
          refine (EY.of_wp (K := fun a' s' => a'.defers = a.defers ∧ On X (ρ, L) s' ∧ (∃ w, CS X ρ0 L0 w0 s' w) ∧ ∃ v, (chk js accA s'.2 ∧ wpPi X ops.toList rest accA (fr.put o.dst v) s'.2 K) ∧ FRel N D s'.1 (X.pad ++ s'.2).length (fr.put o.dst v) a') (fun a' s' h => h.1) fun w hw => ?_).mono ?_
          · refine Oper.wp_mono ?_ (wpO_sound (o := o) (dstIn_spec hdi) hq hw.1 hf _)
            rintro a' w' ⟨ρ', v, L', hk, hs', hf', hx⟩
            exact ⟨(ρ', L'), ⟨hs', hw.2.trans hx⟩, by rw [hf'.defers, hf.defers], ⟨hx.len, hx.agree⟩, ⟨w', hs', hw.2.trans hx⟩, v, hk, hf'⟩
          · rintro v ⟨ρ', L'⟩ ⟨_, hon, hex, u, ⟨hc, hk⟩, hf'⟩
            exact ⟨hkeep _ hon hc, pi_sound hd rest rs accA acc _ L' ρ' _ hB.2 her (hh.on hon) hex hf' hk⟩
        · rw [if_neg (by simp [hwf])]
          exact ⟨hkeep _ (On.refl _) hn, pi_sound hd rest rs accA acc _ L ρ _ hB.2 her hh ⟨ws, hws⟩ hundef hr⟩
theorem effOf_spec {ops : Array Oper} {π : List (Nat × Step)} (h : drawB ops π = true) : ∀ p ∈ π, effOf π p.1 = match p.2 with | .e _ => true | _ => false := fun p hp => by
  simp only [drawB, Bool.and_eq_true] at h
  have := List.all_eq_true.1 h.2 p hp
  cases hs : p.2 with
  | q => simpa [hs] using this
  | r => simpa [hs] using this
  | e js => exact List.any_eq_true.2 ⟨p, hp, by simp [hs]⟩
theorem draw2 {id : Nat} {ops : Array Oper} {K : Fr → List AO → Prop} (π : List (Nat × Step)) (hB : drawB ops π = true) (hd : ops.toList.all (dstIn N) = true) (h : wpPi X ops.toList π [] fr L K) : DrawM X N D n0 id ops K fr L := by
  intro ρ0 L0 w0 ρ a w h0 hs hf he
  have hs1 : Sim X.ng ρ (X.pad ++ L) { w with drawn := w.drawn + 1 } := ⟨hs.ngl, hs.glob, hs.inj, hs.lt, hs.cells, fun i b c h => ⟨fun j v hv => (hs.ro i b c h).1 j v hv, (hs.ro i b c h).2⟩, hs.obj⟩
  have hx1 : Ext ρ0 (X.pad ++ L0) w0 ρ (X.pad ++ L) { w with drawn := w.drawn + 1 } := ⟨he.os, he.tape, he.output, he.size, he.len, he.agree, he.new, he.keep, he.stay⟩
  have hB0 := hB
  simp only [drawB, Bool.and_eq_true] at hB
  obtain ⟨⟨⟨⟨b1, b2⟩, b3⟩, b4⟩, b5⟩ := hB
  refine wp_region_pi (C := CS X ρ0 L0 w0) (s := (ρ, L)) (eff := effOf π) (K := fun a' s' => ∃ fr', K fr' s'.2 ∧ FRel N D s'.1 (X.pad ++ s'.2).length fr' a') (π.map (·.1)) (by simpa using b2) X.mixed b1 b4 ⟨hs1, hx1⟩ ?_ ?_
  · rintro a' ⟨ρ', L'⟩ w' ⟨hs', hx'⟩ ⟨fr', hk, hf'⟩
    exact ⟨ρ', fr', L', hk, hs', hf', hx'⟩
  · exact pi_sound hd π [] [] [] fr L ρ a b3 (effOf_spec hB0) (fun p hp => nomatch hp) ⟨_, hs1, hx1⟩ hf h
end
end Go.Tb
end
