/-
  A part of the proof (my own): of the texts that the claim's last text rests on: parts Wp, Code.
-/
import Derived.Orders
import Derived.Test.YtigjokkakcmmdaaGreatDoorT03
set_option linter.unusedSimpArgs false
set_option linter.unusedVariables false
section
namespace Go.Tb
open Go
structure Cx where
  P : Program
  ng : Nat
  pad : List AO
  len : pad.length = 100
  ngl : ng ≤ 100
  ro : ∀ (i : Nat) (o : AO), pad[i]? = some o → o.wr = false
  wf : ∀ (i b : Nat) (c : List Value), pad[i]? = some (.ro b c) → ∀ v ∈ c, WF 100 v
  mixed : P.follows .mixedOrders = true
def look (X : Cx) (L : List AO) (b : Nat) : Option AO := if b < 100 then X.pad[b]? else L[b - 100]?
theorem look_eq (X : Cx) (L : List AO) (b : Nat) : (X.pad ++ L)[b]? = look X L b := by
  unfold look
  split
  · rename_i h; rw [List.getElem?_append_left (by rw [X.len]; exact h)]
  · rename_i h; rw [List.getElem?_append_right (by rw [X.len]; omega), X.len]
def rdL (X : Cx) (L : List AO) (t : TypeId) (p : Value) : Option Value := match p with
  | .pointer (some ⟨b, o, none⟩) => match tSz X.P t with
    | some (true, s) => match look X L b with
      | some (.cells c _) => (sub c o s).map fun cs => .agg cs.toArray
      | some (.ro z c) => if z ≤ o then (sub c (o - z) s).map fun cs => .agg cs.toArray else none
      | _ => none
    | some (false, _) => match look X L b with
      | some (.cells c _) => c[o]?
      | some (.ro z c) => if z ≤ o then c[o - z]? else none
      | _ => none
    | none => none
  | _ => none
theorem rdL_eq (X : Cx) (L : List AO) (t : TypeId) (p : Value) : rdM X.P (X.pad ++ L) t p = rdL X L t p := by
  unfold rdM
  split
  case h_2 h =>
    unfold rdL
    split
    · exact absurd rfl (h _ _)
    · rfl
  rename_i b o
  unfold rdL
  cases hz : tSz X.P t with
  | none => rfl
  | some p =>
    obtain ⟨ag, s⟩ := p
    cases ag
    · simp only [rd1, look_eq]
      cases look X L b with
      | none => rfl
      | some o' => cases o' <;> rfl
    · simp only [rdS, look_eq]
      cases hl : look X L b with
      | none => rfl
      | some o' =>
        cases o' with
        | ro z c => simp only; split <;> rfl
        | _ => rfl
def wrL (X : Cx) (L : List AO) (t : TypeId) (p v : Value) : Option (List AO) := match p with
  | .pointer (some ⟨b, o, none⟩) => match tSz X.P t with
    | some (_, s) => if b < 100 then none else match L[b - 100]? with
      | some (.cells c T) => if (cellsL v).length = s ∧ (cellsL v).all one = true ∧ o + s ≤ c.length then some (L.set (b - 100) (.cells (spl c o (cellsL v)) T)) else none
      | _ => none
    | none => none
  | _ => none
theorem wrL_eq (X : Cx) (L : List AO) (t : TypeId) (p v : Value) {L' : List AO} (h : wrL X L t p v = some L') : wrM X.P (X.pad ++ L) t p v = some (X.pad ++ L') := by
  unfold wrL at h
  unfold wrM
  split at h
  · rename_i b o
    split at h
    · rename_i hz
      split at h
      · cases h
      · rename_i hb
        have hl : (X.pad ++ L)[b]? = L[b - 100]? := by rw [look_eq]; unfold look; rw [if_neg hb]
        split at h
        · rename_i hc
          split at h
          · rename_i hcond
            simp only [Option.some.injEq] at h; subst h
            simp only [hz, hl, hc, hcond, and_self, if_true, Option.some.injEq]
            rw [List.set_append_right _ _ (by rw [X.len]; omega), X.len]
          · cases h
        · cases h
    · cases h
  · cases h
def onV {α : Type} (o : Option α) (K : α → Prop) : Prop := match o with
  | some v => K v
  | none => False
theorem onV_some {α : Type} (v : α) (K : α → Prop) : onV (some v) K = K v := rfl
@[congr] theorem onV_congr {α : Type} {o o' : Option α} (K : α → Prop) (h : o = o') : onV o K = onV o' K := by rw [h]
theorem onV_spec {α : Type} {o : Option α} {K : α → Prop} (h : onV o K) : ∃ v, o = some v ∧ K v := by
  unfold onV at h
  split at h
  · exact ⟨_, rfl, h⟩
  · exact h.elim
def onB (c : Option Value) (A B : Prop) : Prop := match c with
  | some (.bool b) => (b = true → A) ∧ (b = false → B)
  | _ => False
theorem onB_true (A B : Prop) : onB (some (.bool true)) A B = A := by simp [onB]
theorem onB_false (A B : Prop) : onB (some (.bool false)) A B = B := by simp [onB]
@[congr] theorem onB_congr {c c' : Option Value} (A B : Prop) (h : c = c') : onB c A B = onB c' A B := by rw [h]
theorem onB_intro {b : Bool} {A B : Prop} (h1 : b = true → A) (h2 : b = false → B) : onB (some (.bool b)) A B := ⟨h1, h2⟩
theorem onB_dec {p : Prop} {_ : Decidable p} {A B : Prop} (h1 : p → A) (h2 : ¬ p → B) : onB (some (.bool (decide p))) A B :=
  onB_intro (fun h => h1 (of_decide_eq_true h)) (fun h => h2 (of_decide_eq_false h))
theorem onB_ndec {p : Prop} {_ : Decidable p} {A B : Prop} (h1 : ¬ p → A) (h2 : p → B) : onB (some (.bool (!decide p))) A B :=
  onB_intro (fun h => h1 (by simpa using h)) (fun h => h2 (by simpa using h))
theorem onB_spec {c : Option Value} {A B : Prop} (h : onB c A B) : ∃ b, c = some (.bool b) ∧ (b = true → A) ∧ (b = false → B) := by
  unfold onB at h
  split at h
  · exact ⟨_, rfl, h⟩
  · exact h.elim
def callOk (P : Program) (f : FuncId) : Bool := match P.funcs[f]? with
  | some fn => fn.body.isSome && !(fn.name == "runtime.NumGoroutine")
  | none => false
def CallM (X : Cx) (f : FuncId) (vs : List Value) (L : List AO) (K : Value → List AO → Prop) : Prop :=
  callOk X.P f = true ∧ ∀ ρ w, Sim X.ng ρ (X.pad ++ L) w → (∀ v ∈ vs, WF (X.pad ++ L).length v) → Calls X.P f (vs.map (rl ρ)).toArray w fun e w' =>
    ∃ ρ' v L', e = .returned (rl ρ' v) ∧ K v L' ∧ WF (X.pad ++ L').length v ∧ Sim X.ng ρ' (X.pad ++ L') w' ∧ Ext ρ (X.pad ++ L) w ρ' (X.pad ++ L') w'
def RawO (X : Cx) (fr : Fr) (L : List AO) (op : Op) (K : Value → List AO → Prop) : Prop :=
  ∀ (N : Nat) (D : List Deferred) (ρ : Nat → Nat) (w : World) (a : Act), Sim X.ng ρ (X.pad ++ L) w → FRel N D ρ (X.pad ++ L).length fr a →
    ∃ (v : Value) (ρ' : Nat → Nat) (L' : List AO) (w' : World), (∀ o : Oper, o.op = op → (execOp a.eval o).run X.P w = .ok (.value (rl ρ' v)) w' ∨ (v = .tuple #[] ∧ (execOp a.eval o).run X.P w = .ok .skip w')) ∧
      K v L' ∧ WF (X.pad ++ L').length v ∧ Sim X.ng ρ' (X.pad ++ L') w' ∧ Ext ρ (X.pad ++ L) w ρ' (X.pad ++ L') w'
theorem RawO.mono {X : Cx} {fr : Fr} {L : List AO} {op : Op} {K K' : Value → List AO → Prop} (h : RawO X fr L op K) (hk : ∀ v M, K v M → K' v M) : RawO X fr L op K' := fun N D ρ w a hs hf => by
  obtain ⟨v, ρ', L', w', h1, h2, h3⟩ := h N D ρ w a hs hf
  exact ⟨v, ρ', L', w', h1, hk _ _ h2, h3⟩
def CallQ (X : Cx) (f : FuncId) (vs : List Value) (L : List AO) (K : Value → Prop) : Prop :=
  callOk X.P f = true ∧ ∃ v, K v ∧ WF (X.pad ++ L).length v ∧ ∀ ρ w, Sim X.ng ρ (X.pad ++ L) w → (∀ v ∈ vs, WF (X.pad ++ L).length v) → Calls X.P f (vs.map (rl ρ)).toArray w fun e w' =>
    e = .returned (rl ρ v) ∧ Sim X.ng ρ (X.pad ++ L) w' ∧ Ext ρ (X.pad ++ L) w ρ (X.pad ++ L) w'
@[congr] theorem CallM_congr {X : Cx} {f : FuncId} {vs vs' : List Value} {L L' : List AO} (K : Value → List AO → Prop) (h : vs = vs') (h' : L = L') : CallM X f vs L K = CallM X f vs' L' K := by rw [h, h']
@[congr] theorem CallQ_congr {X : Cx} {f : FuncId} {vs vs' : List Value} {L L' : List AO} (K : Value → Prop) (h : vs = vs') (h' : L = L') : CallQ X f vs L K = CallQ X f vs' L' K := by rw [h, h']
theorem CallM.mono {X : Cx} {f : FuncId} {vs : List Value} {L : List AO} {K K' : Value → List AO → Prop} (h : CallM X f vs L K) (hk : ∀ v L', K v L' → K' v L') : CallM X f vs L K' :=
  ⟨h.1, fun ρ w hs hw => (h.2 ρ w hs hw).mono fun _ _ ⟨ρ', v, L', e, k, r⟩ => ⟨ρ', v, L', e, hk _ _ k, r⟩⟩
def fnOf : Value → Option (FuncId × List Value × List Value)
  | .func (.func f) first captured => some (f, first.toList, captured.toList)
  | _ => none
def pts (ng : Nat) (fr : Fr) : List (Nat × Operand) → Option (List (Nat × Value))
  | [] => some []
  | (i, x) :: xs => (evO ng fr x).bind fun v => (pts ng fr xs).map fun vs => (i, v) :: vs
theorem pts_sound {ng N : Nat} {D : List Deferred} {ρ : Nat → Nat} {L : List AO} {w : World} {fr : Fr} {a : Act} (hs : Sim ng ρ L w) (hf : FRel N D ρ L.length fr a) : ∀ {xs : List (Nat × Operand)} {vs : List (Nat × Value)}, pts ng fr xs = some vs →
    (xs.map fun p => (p.1, a.eval p.2)) = (vs.map fun p => (p.1, rl ρ p.2)) ∧ ∀ v ∈ vs, WF L.length v.2
  | [], vs, h => by simp [pts] at h; subst h; simp
  | (i, x) :: xs, vs, h => by
    simp only [pts] at h
    cases hx : evO ng fr x with
    | none => simp [hx] at h
    | some v =>
      cases hxs : pts ng fr xs with
      | none => simp [hx, hxs] at h
      | some us =>
        simp [hx, hxs] at h; subst h
        obtain ⟨h1, h2⟩ := evO_sound hs hf hx
        obtain ⟨h3, h4⟩ := pts_sound hs hf hxs
        refine ⟨by simp [h1, h3], fun v hv => ?_⟩
        cases hv with
        | head => exact h2
        | tail _ hv => exact h4 _ hv
def app2 (X : Cx) (L : List AO) (vs : List Value) (ts : List TypeId) (K : Value → List AO → Prop) : Prop := match vs, ts with
  | [s, x], [t, tx] => AppM X.P (X.pad ++ L) t tx s x fun v M => ∃ L', M = X.pad ++ L' ∧ K v L'
  | _, _ => False
def cpy2 (X : Cx) (L : List AO) (vs : List Value) (ts : List TypeId) (K : Value → List AO → Prop) : Prop := match vs, ts with
  | [d, s], [t, tx] => CopyM X.P (X.pad ++ L) t tx d s fun v M => ∃ L', M = X.pad ++ L' ∧ K v L'
  | _, _ => False
def newB (L : List AO) (m k : Nat) (cs : List Value) (e : TypeId) (K : Value → List AO → Prop) : Prop := K (.slice (some ⟨100 + L.length, 0, none⟩) m k) (L ++ [.cells cs e])
def wpO (X : Cx) (fr : Fr) (L : List AO) (op : Op) (K : Value → List AO → Prop) : Prop := match op with
  | .load t x => onV ((evO X.ng fr x).bind (rdL X L t)) fun v => K v L
  | .store t x y => onV ((evO X.ng fr x).bind fun p => (evO X.ng fr y).bind fun v => wrL X L t p v) fun L' => K (.tuple #[]) L'
  | .alloc t => onV (tZero X.P t) fun cs => K (.pointer (some ⟨100 + L.length, 0, none⟩)) (L ++ [.cells cs t])
  | .box t x => onV (evO X.ng fr x) fun v => K (.pointer (some ⟨100 + L.length, 0, none⟩)) (L ++ [.cells (cellsL v) t])
  | .call { callee := .value f, args, argTypes := _ } => onV ((evO X.ng fr f).bind fnOf) fun g => onV (evs X.ng fr args.toList) fun vs => CallM X g.1 (g.2.1 ++ vs ++ g.2.2) L K
  | .call { callee := .builtin .append, args, argTypes } => onV (evs X.ng fr args.toList) fun vs => app2 X L vs argTypes.toList K
  | .call { callee := .builtin .copy, args, argTypes } => onV (evs X.ng fr args.toList) fun vs => cpy2 X L vs argTypes.toList K
  | .convert s t x => onV ((evO X.ng fr x).bind (convM X.P (X.pad ++ L) s t)) fun v => K v L
  | .build t parts => onV ((pts X.ng fr parts.toList).bind (buildV X.P t)) fun v => K v L
  | .buildSlice t n parts => onV ((pts X.ng fr parts.toList).bind (bsV X.P t n)) fun p => newB L n n p.2 p.1 K
  | .makeSlice t l c => onV ((evO X.ng fr l).bind fun l => (evO X.ng fr c).bind fun c => msV X.P t l c) fun p => newB L p.2.1 p.2.2.1 p.2.2.2 p.1 K
  | .makeMap t r => RawO X fr L (.makeMap t r) K
  | .mapUpdate t m k v => RawO X fr L (.mapUpdate t m k v) K
  | .lookup t m k b => RawO X fr L (.lookup t m k b) K
  | op => onV (pureV X.P X.ng fr op) fun v => K v L
def wpQ (X : Cx) (fr : Fr) (L : List AO) (op : Op) (K : Value → Prop) : Prop := match op with
  | .load t x => onV ((evO X.ng fr x).bind (rdL X L t)) fun v => K v
  | .call { callee := .value f, args, argTypes := _ } => onV ((evO X.ng fr f).bind fnOf) fun g => onV (evs X.ng fr args.toList) fun vs => CallQ X g.1 (g.2.1 ++ vs ++ g.2.2) L K
  | .build t parts => onV ((pts X.ng fr parts.toList).bind (buildV X.P t)) fun v => K v
  | op => onV (pureV X.P X.ng fr op) fun v => K v
section
variable {X : Cx} {N : Nat} {D : List Deferred} {ρ : Nat → Nat} {L : List AO} {w : World} {fr : Fr} {a : Act}
theorem full_len (X : Cx) (L : List AO) : (X.pad ++ L).length = 100 + L.length := by rw [List.length_append, X.len]
theorem oper_value {P : Program} {o : Oper} {v : Value} {w' : World} {next : Act → World → Prop} {Q : Exit → Act → World → Prop} (h : (execOp a.eval o).run P w = .ok (.value v) w') (hn : next (a.put o.dst v) w') : o.wp P a w next Q := by
  unfold Oper.wp; rw [h]; exact hn
theorem oper_skip {P : Program} {o : Oper} {w' : World} {next : Act → World → Prop} {Q : Exit → Act → World → Prop} (h : (execOp a.eval o).run P w = .ok .skip w') (hn : next (a.put o.dst undef) w') : o.wp P a w next Q := by
  unfold Oper.wp; rw [h]; exact hn
theorem callOk_spec {P : Program} {f : FuncId} (h : callOk P f = true) (args : Array Value) (w : World) : (callFunc f args).run P w = .ok (.enter f args) w := by
  unfold callOk at h
  split at h
  · rename_i fn hf
    simp only [Bool.and_eq_true, Bool.not_eq_true'] at h
    obtain ⟨h1, h2⟩ := h
    have h3 : fn.body.isNone = false := by cases hb : fn.body <;> simp_all
    have hp : (program).run P w = .ok P w := rfl
    simp only [callFunc, Sem.run_bind, hp, Result.andThen_ok, hf, h2, Bool.false_eq_true, if_false, h3, Sem.run_pure]
  · cases h
theorem run_call {P : Program} {f : Operand} {args : Array Operand} {tys : Array TypeId} {dst : Option Tmp} {ty : TypeId} {pos : String} {after : Array Edge} {guard : Option (Nat × Bool)} {fid : FuncId} {first captured : Array Value}
    (hf : a.eval f = .func (.func fid) first captured) (hc : callOk P fid = true) (w : World) :
    (execOp a.eval { dst, op := .call { callee := .value f, args, argTypes := tys }, type := ty, pos, after, guard }).run P w = .ok (.enter fid (first ++ args.map a.eval ++ captured)) w := by
  simp only [execOp, resolve, hf, Deferred.ofValue, Sem.run_bind, Sem.run_pure, Result.andThen_ok, invoke]
  exact callOk_spec hc _ w
theorem fnOf_spec {v : Value} {g : FuncId × List Value × List Value} (h : fnOf v = some g) : v = .func (.func g.1) g.2.1.toArray g.2.2.toArray := by
  unfold fnOf at h
  split at h
  · simp only [Option.some.injEq] at h; subst h; simp
  · cases h
theorem new_row {cs : List Value} {e : TypeId} (hs : Sim X.ng ρ (X.pad ++ L) w) (hw : ∀ v ∈ cs, WF (X.pad ++ L).length v) :
    Sim X.ng (upN ρ (X.pad ++ L).length w.heap.size) (X.pad ++ (L ++ [AO.cells cs e])) (pushBlk w (.cells (cs.map (rl ρ)).toArray e (0, 0))) ∧ Ext ρ (X.pad ++ L) w (upN ρ (X.pad ++ L).length w.heap.size) (X.pad ++ (L ++ [AO.cells cs e])) (pushBlk w (.cells (cs.map (rl ρ)).toArray e (0, 0))) ∧
      ∀ n c, WF (X.pad ++ (L ++ [AO.cells cs e])).length (.slice (some ⟨100 + L.length, 0, none⟩) n c) := by
  have hsim := sim_push (o := .cells cs e) (ob := .cells (cs.map (rl ρ)).toArray e (0, 0)) hs (fun c T h => by
    simp only [AO.cells.injEq] at h
    obtain ⟨rfl, rfl⟩ := h
    exact ⟨rfl, hw⟩) (fun _ _ h => by cases h) (fun _ h => by cases h)
  have hext := ext_push (ρ := ρ) (L := X.pad ++ L) (w := w) (o := .cells cs e) (ob := .cells (cs.map (rl ρ)).toArray e (0, 0))
  rw [List.append_assoc] at hsim hext
  refine ⟨hsim, hext, fun n c ρ1 ρ2 hr => ?_⟩
  simp only [rl_slice, Value.slice.injEq, Option.some.injEq, Addr.mk.injEq, and_true]
  exact hr _ (by rw [full_len, List.length_append]; simp)
theorem wpO_sound {o : Oper} {K : Value → List AO → Prop} (hd : ∀ t, o.dst = some t → t < N) (h : wpO X fr L o.op K) (hs : Sim X.ng ρ (X.pad ++ L) w) (hf : FRel N D ρ (X.pad ++ L).length fr a) (Q : Exit → Act → World → Prop) :
    o.wp X.P a w (fun a' w' => ∃ ρ' v L', K v L' ∧ Sim X.ng ρ' (X.pad ++ L') w' ∧ FRel N D ρ' (X.pad ++ L').length (fr.put o.dst v) a' ∧ Ext ρ (X.pad ++ L) w ρ' (X.pad ++ L') w') Q := by
  obtain ⟨dst, op, type, pos, after, guard⟩ := o
  have ev : ∀ {x : Operand} {v : Value}, evO X.ng fr x = some v → a.eval x = rl ρ v ∧ WF (X.pad ++ L).length v := fun h => evO_sound hs hf h
  have fin : ∀ {v : Value} {ρ' : Nat → Nat} {L' : List AO} {w' : World}, WF (X.pad ++ L').length v → Ext ρ (X.pad ++ L) w ρ' (X.pad ++ L') w' → FRel N D ρ' (X.pad ++ L').length (fr.put dst v) (a.put dst (rl ρ' v)) := fun hv he => (hf.ext he.len he.agree).put hd hv
  simp only at h
  unfold wpO at h
  split at h
  · rename_i t x
    obtain ⟨v, hv, hk⟩ := onV_spec h
    cases hx : evO X.ng fr x with
    | none => simp [hx] at hv
    | some p =>
      simp only [hx, Option.bind_some] at hv
      rw [← rdL_eq] at hv
      obtain ⟨e, hw⟩ := ev hx
      obtain ⟨h1, h2⟩ := rdM_sound hs hv
      exact oper_value (v := rl ρ v) (w' := w) (by simp [execOp, e, h1]) ⟨ρ, v, L, hk, hs, fin h2 (Ext.refl _ _ _), Ext.refl _ _ _⟩
  · rename_i t x y
    obtain ⟨L', hv, hk⟩ := onV_spec h
    cases hx : evO X.ng fr x with
    | none => simp [hx] at hv
    | some p =>
      cases hy : evO X.ng fr y with
      | none => simp [hx, hy] at hv
      | some u =>
        simp only [hx, hy, Option.bind_some] at hv
        obtain ⟨e, hw⟩ := ev hx
        obtain ⟨e', hw'⟩ := ev hy
        obtain ⟨w', h1, h2, h3, h4⟩ := wrM_sound hs hw' (wrL_eq X L t p u hv)
        refine oper_skip (w' := w') (by simp [execOp, e, e', h1]) ⟨ρ, .tuple #[], L', hk, h2, ?_, h3⟩
        have := fin (v := .tuple #[]) (fun _ _ _ => by simp) h3
        simpa [undef] using this
  · rename_i t
    obtain ⟨cs, hz, hk⟩ := onV_spec h
    have hz' : ∃ z, (zeroValue t).run X.P w = .ok z w ∧ z.cells.toList = cs ∧ cs.all kon = true := by
      unfold tZero at hz
      split at hz
      · rename_i i hi
        split at hz
        · rename_i z hzz
          split at hz
          · rename_i hcond
            simp only [Option.some.injEq] at hz
            simp only [Bool.and_eq_true] at hcond
            exact ⟨z, by simp [zeroValue, typeInfo, hi, hzz], hz, by rw [← hz]; exact hcond.1⟩
          · cases hz
        · cases hz
      · cases hz
    obtain ⟨z, h1, h2, h3⟩ := hz'
    have hwf : ∀ v ∈ cs, WF (X.pad ++ L).length v := fun v hv => kon_WF (List.all_eq_true.1 h3 v hv) _
    have hmap : cs.map (rl ρ) = cs := by
      conv => rhs; rw [← List.map_id cs]
      exact List.map_congr_left fun v hv => by simp [kon_rl (List.all_eq_true.1 h3 v hv)]
    have hsim := sim_push (o := .cells cs t) (ob := .cells z.cells t (0, 0)) hs (fun c T e => by
      simp only [AO.cells.injEq] at e
      obtain ⟨rfl, rfl⟩ := e
      refine ⟨?_, hwf⟩
      rw [hmap, ← h2]) (fun _ _ e => by cases e) (fun _ e => by cases e)
    have hext := ext_push (ρ := ρ) (L := X.pad ++ L) (w := w) (o := .cells cs t) (ob := .cells z.cells t (0, 0))
    rw [List.append_assoc] at hsim hext
    refine oper_value (v := .pointer (some ⟨w.heap.size, 0, none⟩)) (w' := pushBlk w (.cells z.cells t (0, 0))) ?_ ⟨_, .pointer (some ⟨100 + L.length, 0, none⟩), L ++ [.cells cs t], hk, hsim, ?_, hext⟩
    · simp [execOp, Instr.alloc, h1, newVar, newRow, newObj, Sem.run, pushBlk]
    · have := fin (v := .pointer (some ⟨100 + L.length, 0, none⟩)) (by rw [show (X.pad ++ (L ++ [AO.cells cs t])).length = 100 + L.length + 1 by simp [X.len]; omega]; exact WF_new) hext
      simpa [full_len, upN_eq, upN, X.len] using this
  · rename_i t x
    obtain ⟨v, hx, hk⟩ := onV_spec h
    obtain ⟨e, hw⟩ := ev hx
    have hsim := sim_push (o := .cells (cellsL v) t) (ob := .cells (rl ρ v).cells t (0, 0)) hs (fun c T e => by
      simp only [AO.cells.injEq] at e
      obtain ⟨rfl, rfl⟩ := e
      refine ⟨?_, WF_cells hw⟩
      rw [← cells_rl]) (fun _ _ e => by cases e) (fun _ e => by cases e)
    have hext := ext_push (ρ := ρ) (L := X.pad ++ L) (w := w) (o := .cells (cellsL v) t) (ob := .cells (rl ρ v).cells t (0, 0))
    rw [List.append_assoc] at hsim hext
    refine oper_value (v := .pointer (some ⟨w.heap.size, 0, none⟩)) (w' := pushBlk w (.cells (rl ρ v).cells t (0, 0))) ?_ ⟨_, .pointer (some ⟨100 + L.length, 0, none⟩), L ++ [.cells (cellsL v) t], hk, hsim, ?_, hext⟩
    · simp [execOp, Instr.box, e, newVar, newRow, newObj, Sem.run, pushBlk]
    · have := fin (v := .pointer (some ⟨100 + L.length, 0, none⟩)) (by rw [show (X.pad ++ (L ++ [AO.cells (cellsL v) t])).length = 100 + L.length + 1 by simp [X.len]; omega]; exact WF_new) hext
      simpa [full_len, upN_eq, upN, X.len] using this
  · rename_i f args _
    obtain ⟨g, hg, h⟩ := onV_spec h
    obtain ⟨vs, hvs, hcall⟩ := onV_spec h
    cases hx : evO X.ng fr f with
    | none => simp [hx] at hg
    | some fv =>
      simp only [hx, Option.bind_some] at hg
      obtain ⟨e, hw⟩ := ev hx
      obtain ⟨he, hwv⟩ := evs_sound hs hf hvs
      have hfv := fnOf_spec hg
      subst hfv
      rw [rl_func] at e
      have hwall : ∀ v ∈ g.2.1 ++ vs ++ g.2.2, WF (X.pad ++ L).length v := by
        have hin : ∀ v ∈ g.2.1 ++ g.2.2, WF (X.pad ++ L).length v := by
          intro v hv ρ1 ρ2 hr
          have := hw ρ1 ρ2 hr
          simp only [rl_func, Value.func.injEq, true_and] at this
          obtain ⟨t1, t2⟩ := this
          have t1 : g.2.1.map (rl ρ1) = g.2.1.map (rl ρ2) := by simpa using congrArg Array.toList t1
          have t2 : g.2.2.map (rl ρ1) = g.2.2.map (rl ρ2) := by simpa using congrArg Array.toList t2
          rcases List.mem_append.1 hv with hv | hv
          · exact List.map_inj_left.1 t1 v hv
          · exact List.map_inj_left.1 t2 v hv
        intro v hv
        simp only [List.mem_append] at hv
        rcases hv with (hv | hv) | hv
        · exact hin v (List.mem_append_left _ hv)
        · exact hwv v hv
        · exact hin v (List.mem_append_right _ hv)
      have hrun := run_call (P := X.P) (args := args) (tys := ‹_›) (dst := dst) (ty := type) (pos := pos) (after := after) (guard := guard) e hcall.1 w
      unfold Oper.wp
      rw [hrun, Oper.upon_enter]
      have hargs : (g.2.1.toArray.map (rl ρ) ++ args.map a.eval ++ g.2.2.toArray.map (rl ρ)) = ((g.2.1 ++ vs ++ g.2.2).map (rl ρ)).toArray := by
        apply Array.toList_inj.1
        simp [he]
      rw [hargs]
      refine (hcall.2 ρ w hs hwall).mono ?_
      rintro e1 w' ⟨ρ', v, L', rfl, hk, hv, hsim, hext⟩
      exact ⟨ρ', v, L', hk, hsim, fin hv hext, hext⟩
  · rename_i args tys
    obtain ⟨vs, hvs, h⟩ := onV_spec h
    obtain ⟨he, hwv⟩ := evs_sound hs hf hvs
    unfold app2 at h
    split at h
    · rename_i s x t tx htl
      obtain ⟨ρ', v, M', w', hrun, ⟨L', rfl, hk⟩, hv, hs', hx⟩ := appM_sound (ty := type) h hs (hwv s (by simp))
      refine oper_value (v := rl ρ' v) (w' := w') ?_ ⟨ρ', v, L', hk, hs', fin hv hx, hx⟩
      have e1 : args.map a.eval = #[rl ρ s, rl ρ x] := by apply Array.toList_inj.1; simpa using he
      have e2 : tys = #[t, tx] := by apply Array.toList_inj.1; simpa using htl
      subst e2
      simp [execOp, resolve, invoke, builtin, e1, hrun]
    · exact h.elim
  · rename_i args tys
    obtain ⟨vs, hvs, h⟩ := onV_spec h
    obtain ⟨he, hwv⟩ := evs_sound hs hf hvs
    unfold cpy2 at h
    split at h
    · rename_i s x t tx htl
      obtain ⟨v, M', w', hrun, ⟨L', rfl, hk⟩, hv, hs', hx⟩ := copyM_sound (ty := type) h hs
      refine oper_value (v := rl ρ v) (w' := w') ?_ ⟨ρ, v, L', hk, hs', fin hv hx, hx⟩
      have e1 : args.map a.eval = #[rl ρ s, rl ρ x] := by apply Array.toList_inj.1; simpa using he
      have e2 : tys = #[t, tx] := by apply Array.toList_inj.1; simpa using htl
      subst e2
      simp [execOp, resolve, invoke, builtin, e1, hrun]
    · exact h.elim
  · rename_i s t x
    obtain ⟨v, hv, hk⟩ := onV_spec h
    cases hx : evO X.ng fr x with
    | none => simp [hx] at hv
    | some p =>
      simp only [hx, Option.bind_some] at hv
      obtain ⟨e, hw⟩ := ev hx
      obtain ⟨h1, h2⟩ := convM_sound hv hs
      exact oper_value (v := rl ρ v) (w' := w) (by simp [execOp, e, h1]) ⟨ρ, v, L, hk, hs, fin (h2 _) (Ext.refl _ _ _), Ext.refl _ _ _⟩
  · rename_i t parts
    obtain ⟨v, hv, hk⟩ := onV_spec h
    cases hp : pts X.ng fr parts.toList with
    | none => simp [hp] at hv
    | some ps =>
      simp only [hp, Option.bind_some] at hv
      obtain ⟨he, hwp⟩ := pts_sound hs hf hp
      obtain ⟨h1, h2⟩ := buildV_sound (ρ := ρ) hv w
      have e1 : parts.map (fun p => (p.1, a.eval p.2)) = (ps.map fun p => (p.1, rl ρ p.2)).toArray := by apply Array.toList_inj.1; simpa using he
      exact oper_value (v := rl ρ v) (w' := w) (by simp [execOp, e1, h1]) ⟨ρ, v, L, hk, hs, fin (h2 _ hwp) (Ext.refl _ _ _), Ext.refl _ _ _⟩
  · rename_i t n parts
    obtain ⟨⟨e, cs⟩, hv, hk⟩ := onV_spec h
    cases hp : pts X.ng fr parts.toList with
    | none => simp [hp] at hv
    | some ps =>
      simp only [hp, Option.bind_some] at hv
      obtain ⟨he, hwp⟩ := pts_sound hs hf hp
      obtain ⟨h1, h2⟩ := bsV_sound (ρ := ρ) hv w
      have e1 : parts.map (fun p => (p.1, a.eval p.2)) = (ps.map fun p => (p.1, rl ρ p.2)).toArray := by apply Array.toList_inj.1; simpa using he
      obtain ⟨g1, g2, g3⟩ := new_row (ρ := ρ) (L := L) (e := e) hs (h2 _ hwp)
      exact oper_value (w' := _) (by simp [execOp, e1, h1]; rfl) ⟨_, _, _, hk, g1, by have := fin (g3 n n) g2; simpa [full_len, upN_eq, upN, X.len] using this, g2⟩
  · rename_i t l c
    obtain ⟨⟨e, m, k, cs⟩, hv, hk⟩ := onV_spec h
    cases hl : evO X.ng fr l with
    | none => simp [hl] at hv
    | some lv =>
      cases hc : evO X.ng fr c with
      | none => simp [hl, hc] at hv
      | some cv =>
        simp only [hl, hc, Option.bind_some] at hv
        obtain ⟨h1, h2⟩ := msV_sound (ρ := ρ) hv w
        obtain ⟨g1, g2, g3⟩ := new_row (ρ := ρ) (L := L) (e := e) hs (h2 (X.pad ++ L).length)
        exact oper_value (w' := _) (by simp [execOp, (ev hl).1, (ev hc).1, h1]; rfl) ⟨_, _, _, hk, g1, by have := fin (g3 m k) g2; simpa [full_len, upN_eq, upN, X.len] using this, g2⟩
  · obtain ⟨v, ρ', L', w', hrun, hk, hv, hs', hx⟩ := h N D ρ w a hs hf
    rcases hrun ⟨dst, _, type, pos, after, guard⟩ rfl with e | ⟨rfl, e⟩
    · exact oper_value e ⟨ρ', v, L', hk, hs', fin hv hx, hx⟩
    · exact oper_skip e ⟨ρ', .tuple #[], L', hk, hs', by simpa [undef] using fin hv hx, hx⟩
  · obtain ⟨v, ρ', L', w', hrun, hk, hv, hs', hx⟩ := h N D ρ w a hs hf
    rcases hrun ⟨dst, _, type, pos, after, guard⟩ rfl with e | ⟨rfl, e⟩
    · exact oper_value e ⟨ρ', v, L', hk, hs', fin hv hx, hx⟩
    · exact oper_skip e ⟨ρ', .tuple #[], L', hk, hs', by simpa [undef] using fin hv hx, hx⟩
  · obtain ⟨v, ρ', L', w', hrun, hk, hv, hs', hx⟩ := h N D ρ w a hs hf
    rcases hrun ⟨dst, _, type, pos, after, guard⟩ rfl with e | ⟨rfl, e⟩
    · exact oper_value e ⟨ρ', v, L', hk, hs', fin hv hx, hx⟩
    · exact oper_skip e ⟨ρ', .tuple #[], L', hk, hs', by simpa [undef] using fin hv hx, hx⟩
  · obtain ⟨v, hv, hk⟩ := onV_spec h
    obtain ⟨h1, h2⟩ := pureV_sound (o := ⟨dst, op, type, pos, after, guard⟩) hv hs hf
    exact oper_value (h1 w) ⟨ρ, v, L, hk, hs, fin h2 (Ext.refl _ _ _), Ext.refl _ _ _⟩
end
end Go.Tb
end
section
namespace Go.Tb
open Go
def gd (all : List Oper) (fr : Fr) (j : Nat) : Option Value := match (all[j]?).bind (·.dst) with
  | some t => fr.get t
  | none => none
def onG (c : Option Value) (want : Bool) (A B : Prop) : Prop := match c with
  | some (.bool b) => (b = want → A) ∧ (b = !want → B)
  | some (.tuple _) => B
  | _ => False
@[congr] theorem onG_congr {c c' : Option Value} (want : Bool) (A B : Prop) (h : c = c') : onG c want A B = onG c' want A B := by rw [h]
theorem onG_intro {b want : Bool} {A B : Prop} (h1 : b = want → A) (h2 : b = !want → B) : onG (some (.bool b)) want A B := ⟨h1, h2⟩
theorem onG_spec {c : Option Value} {want : Bool} {A B : Prop} (h : onG c want A B) : (∃ b, c = some (.bool b) ∧ (b = want → A) ∧ (b = !want → B)) ∨ ∃ vs, c = some (.tuple vs) ∧ B := by
  unfold onG at h
  split at h
  · exact .inl ⟨_, rfl, h⟩
  · exact .inr ⟨_, rfl, h⟩
  · exact h.elim
def wpOps (X : Cx) (all : List Oper) : List Oper → Fr → List AO → (Fr → List AO → Prop) → Prop
  | [], fr, L, K => K fr L
  | o :: rest, fr, L, K => match o.guard with
    | none => wpO X fr L o.op fun v L' => wpOps X all rest (fr.put o.dst v) L' K
    | some (j, want) => onG (gd all fr j) want (wpO X fr L o.op fun v L' => wpOps X all rest (fr.put o.dst v) L' K) (wpOps X all rest (fr.put o.dst (.tuple #[])) L K)
def wpQs (X : Cx) (all : List Oper) (L : List AO) : List Oper → Fr → (Fr → Prop) → Prop
  | [], fr, K => K fr
  | o :: rest, fr, K => match o.guard with
    | none => wpQ X fr L o.op fun v => wpQs X all L rest (fr.put o.dst v) K
    | some (j, want) => onG (gd all fr j) want (wpQ X fr L o.op fun v => wpQs X all L rest (fr.put o.dst v) K) (wpQs X all L rest (fr.put o.dst (.tuple #[])) K)
@[congr] theorem wpOps_congr {X : Cx} (all l : List Oper) {fr fr' : Fr} {L L' : List AO} (K : Fr → List AO → Prop) (h : fr = fr') (h' : L = L') : wpOps X all l fr L K = wpOps X all l fr' L' K := by rw [h, h']
@[congr] theorem wpQs_congr {X : Cx} (all l : List Oper) {fr fr' : Fr} (L : List AO) (K : Fr → Prop) (h : fr = fr') : wpQs X all L l fr K = wpQs X all L l fr' K := by rw [h]
@[congr] theorem wpO_congr {X : Cx} (fr : Fr) (L : List AO) (op : Op) (K : Value → List AO → Prop) : wpO X fr L op K = wpO X fr L op K := rfl
@[congr] theorem wpQ_congr {X : Cx} (fr : Fr) (L : List AO) (op : Op) (K : Value → Prop) : wpQ X fr L op K = wpQ X fr L op K := rfl
def dstIn (N : Nat) (o : Oper) : Bool := match o.dst with
  | some t => decide (t < N)
  | none => true
def dstOk (N : Nat) : Code → Bool
  | .region _ ops _ => ops.toList.all (dstIn N)
  | .seq a b | .cond _ a b => dstOk N a && dstOk N b
  | .block _ c | .loop c | .scope c => dstOk N c
  | _ => true
theorem dstIn_spec {N : Nat} {o : Oper} (h : dstIn N o = true) : ∀ t, o.dst = some t → t < N := by
  intro t ht
  unfold dstIn at h
  rw [ht] at h
  simpa using h
def Post (X : Cx) (N : Nat) (D : List Deferred) (ρ : Nat → Nat) (L : List AO) (w : World) (Q : Exit → Fr → List AO → Prop) : Exit → Act → World → Prop := fun e a' w' =>
  ∃ ρ' fr' L', Q e fr' L' ∧ Sim X.ng ρ' (X.pad ++ L') w' ∧ FRel N D ρ' (X.pad ++ L').length fr' a' ∧ Ext ρ (X.pad ++ L) w ρ' (X.pad ++ L') w'
def TC (X : Cx) (N : Nat) (D : List Deferred) (n0 : Nat) (c : Code) (Q : Exit → Fr → List AO → Prop) (fr : Fr) (L : List AO) : Prop :=
  ∀ ρ0 L0 w0 ρ a w, L0.length = n0 → Sim X.ng ρ (X.pad ++ L) w → FRel N D ρ (X.pad ++ L).length fr a → Ext ρ0 (X.pad ++ L0) w0 ρ (X.pad ++ L) w → c.wp X.P (Post X N D ρ0 L0 w0 Q) a w
def thenQ (K : Fr → List AO → Prop) (Q : Exit → Fr → List AO → Prop) : Exit → Fr → List AO → Prop
  | .normal, fr, L => K fr L
  | e, fr, L => Q e fr L
def blockQ (id : Nat) (Q : Exit → Fr → List AO → Prop) : Exit → Fr → List AO → Prop
  | .exit i, fr, L => if i = id then Q .normal fr L else Q (.exit i) fr L
  | e, fr, L => Q e fr L
def scopeQ (Q : Exit → Fr → List AO → Prop) : Exit → Fr → List AO → Prop
  | .goto _, _, _ => False
  | e, fr, L => Q e fr L
theorem thenQ_normal (K Q) (fr : Fr) (L : List AO) : thenQ K Q .normal fr L = K fr L := rfl
theorem thenQ_ret (K Q) (fr : Fr) (L : List AO) : thenQ K Q .ret fr L = Q .ret fr L := rfl
theorem thenQ_exit (K Q) (i : Nat) (fr : Fr) (L : List AO) : thenQ K Q (.exit i) fr L = Q (.exit i) fr L := rfl
theorem blockQ_normal (i Q) (fr : Fr) (L : List AO) : blockQ i Q .normal fr L = Q .normal fr L := rfl
theorem blockQ_ret (i Q) (fr : Fr) (L : List AO) : blockQ i Q .ret fr L = Q .ret fr L := rfl
theorem blockQ_exit (i j Q) (fr : Fr) (L : List AO) : blockQ i Q (.exit j) fr L = if j = i then Q .normal fr L else Q (.exit j) fr L := rfl
@[congr] theorem thenQ_congr (K Q) {e e' : Exit} (fr : Fr) (L : List AO) (h : e = e') : thenQ K Q e fr L = thenQ K Q e' fr L := by rw [h]
@[congr] theorem blockQ_congr (i Q) {e e' : Exit} (fr : Fr) (L : List AO) (h : e = e') : blockQ i Q e fr L = blockQ i Q e' fr L := by rw [h]
@[congr] theorem scopeQ_congr (Q) {e e' : Exit} (fr : Fr) (L : List AO) (h : e = e') : scopeQ Q e fr L = scopeQ Q e' fr L := by rw [h]
def LoopM (X : Cx) (N : Nat) (D : List Deferred) (n0 : Nat) (c : Code) (Q : Exit → Fr → List AO → Prop) (fr : Fr) (L : List AO) : Prop := TC X N D n0 (.loop c) Q fr L
def DrawM (X : Cx) (N : Nat) (D : List Deferred) (n0 : Nat) (id : Nat) (ops : Array Oper) (K : Fr → List AO → Prop) (fr : Fr) (L : List AO) : Prop :=
  TC X N D n0 (.region id ops true) (thenQ K fun _ _ _ => False) fr L
@[congr] theorem LoopM_congr {X : Cx} (N D n0 c Q) {fr fr' : Fr} {L L' : List AO} (h : fr = fr') (h' : L = L') : LoopM X N D n0 c Q fr L = LoopM X N D n0 c Q fr' L' := by rw [h, h']
@[congr] theorem DrawM_congr {X : Cx} (N D n0 id ops K) {fr fr' : Fr} {L L' : List AO} (h : fr = fr') (h' : L = L') : DrawM X N D n0 id ops K fr L = DrawM X N D n0 id ops K fr' L' := by rw [h, h']
section
variable {X : Cx} {n0 : Nat}
def VS (X : Cx) (n0 : Nat) (s t : Fr × List AO) : Prop :=
  ∀ (N : Nat) (D : List Deferred) ρ0 L0 w0 ρ a w, L0.length = n0 → Sim X.ng ρ (X.pad ++ s.2) w → FRel N D ρ (X.pad ++ s.2).length s.1 a → Ext ρ0 (X.pad ++ L0) w0 ρ (X.pad ++ s.2) w →
    ∃ ρ', Sim X.ng ρ' (X.pad ++ t.2) w ∧ FRel N D ρ' (X.pad ++ t.2).length t.1 a ∧ Ext ρ0 (X.pad ++ L0) w0 ρ' (X.pad ++ t.2) w
theorem VS.refl (s : Fr × List AO) : VS X n0 s s := fun _ _ _ _ _ ρ _ _ _ hs hf he => ⟨ρ, hs, hf, he⟩
theorem VS.of_eq {s t : Fr × List AO} (h : s = t) : VS X n0 s t := h ▸ VS.refl s
theorem VS.trans {s t u : Fr × List AO} (h : VS X n0 s t) (k : VS X n0 t u) : VS X n0 s u := fun N D ρ0 L0 w0 ρ a w h0 hs hf he => by
  obtain ⟨ρ', s', f', e'⟩ := h N D ρ0 L0 w0 ρ a w h0 hs hf he
  exact k N D ρ0 L0 w0 ρ' a w h0 s' f' e'
def Fr.sub : Fr → Fr → Prop
  | [], _ => True
  | (t, v) :: r, fr => fr.get t = some v ∧ Fr.sub r fr
theorem Fr.sub_get : ∀ {r fr : Fr}, Fr.sub r fr → ∀ {t : Nat} {v : Value}, r.get t = some v → fr.get t = some v
  | (s, u) :: r, fr, h, t, v, hv => by
    simp only [Fr.get] at hv
    split at hv
    · rename_i e; subst e; simp only [Option.some.injEq] at hv; subst hv; exact h.1
    · exact Fr.sub_get h.2 hv
  | [], _, _, _, _, hv => by simp [Fr.get] at hv
theorem VS.sub {r fr : Fr} {L : List AO} (h : Fr.sub r fr) : VS X n0 (fr, L) (r, L) := fun _ _ _ _ _ ρ _ _ _ hs hf he => ⟨ρ, hs, ⟨hf.size, hf.defers, fun _ _ hv => hf.tmps _ _ (Fr.sub_get h hv)⟩, he⟩
end
def wpC (X : Cx) (N : Nat) (D : List Deferred) (n0 : Nat) (V : List Nat) : Code → (Exit → Fr → List AO → Prop) → Fr → List AO → Prop
  | .skip, Q, fr, L => Q .normal fr L
  | .label _, Q, fr, L => Q .normal fr L
  | .exit i, Q, fr, L => Q (.exit i) fr L
  | .ret, Q, fr, L => Q .ret fr L
  | .region id ops true, Q, fr, L => DrawM X N D n0 id ops (fun fr' L' => Q .normal (Fr.keep V fr') L') fr L
  | .region _ ops false, Q, fr, L => wpOps X ops.toList ops.toList fr L fun fr' L' => Q .normal (Fr.keep V fr') L'
  | .seq a b, Q, fr, L => wpC X N D n0 V a (thenQ (fun fr' L' => ∃ s : Fr × List AO, VS X n0 (fr', L') s ∧ wpC X N D n0 V b Q s.1 s.2) Q) fr L
  | .cond c a b, Q, fr, L => onB (evO X.ng fr c) (wpC X N D n0 V a Q fr L) (wpC X N D n0 V b Q fr L)
  | .block i c, Q, fr, L => wpC X N D n0 V c (blockQ i Q) fr L
  | .scope c, Q, fr, L => wpC X N D n0 V c (scopeQ Q) fr L
  | .loop c, Q, fr, L => LoopM X N D n0 c Q fr L
  | _, _, _, _ => False
@[congr] theorem wpC_congr {X : Cx} (N D n0 V c Q) {fr fr' : Fr} {L L' : List AO} (h : fr = fr') (h' : L = L') : wpC X N D n0 V c Q fr L = wpC X N D n0 V c Q fr' L' := by rw [h, h']
section
variable {X : Cx} {N n0 : Nat} {D : List Deferred} {V : List Nat}
theorem guard_wanted {all : List Oper} {fr : Fr} {a : Act} {ρ : Nat → Nat} {n : Nat} (hf : FRel N D ρ n fr a) {o : Oper} {j : Nat} {want b : Bool} (hg : o.guard = some (j, want)) (hb : gd all fr j = some (.bool b)) :
    Region.wanted o (yielded all.toArray a.tmps) = (b == want) := by
  unfold gd at hb
  split at hb
  · rename_i t ht
    obtain ⟨h1, _⟩ := hf.tmps t _ hb
    unfold Region.wanted yielded
    simp only [hg]
    have : (all.toArray[j]?).bind (·.dst) = some t := by simpa using ht
    rw [this]
    simp [h1]
  · cases hb
theorem onG_wanted {all : List Oper} {fr : Fr} {a : Act} {ρ : Nat → Nat} {n : Nat} (hf : FRel N D ρ n fr a) {o : Oper} {j : Nat} {want : Bool} {A B : Prop} (hg : o.guard = some (j, want)) (h : onG (gd all fr j) want A B) :
    (Region.wanted o (yielded all.toArray a.tmps) = true ∧ A) ∨ (Region.wanted o (yielded all.toArray a.tmps) = false ∧ B) := by
  rcases onG_spec h with ⟨b, hb, h1, h2⟩ | ⟨vs, hv, hB⟩
  · rw [guard_wanted hf hg hb]
    by_cases hbw : b = want
    · exact .inl ⟨by simp [hbw], h1 hbw⟩
    · exact .inr ⟨by simpa using hbw, h2 (by cases b <;> cases want <;> simp_all)⟩
  · refine .inr ⟨?_, hB⟩
    unfold gd at hv
    split at hv
    · rename_i t ht
      obtain ⟨h1, _⟩ := hf.tmps t _ hv
      unfold Region.wanted yielded
      simp only [hg]
      have : (all.toArray[j]?).bind (·.dst) = some t := by simpa using ht
      rw [this]
      simp [h1]
    · cases hv
theorem ops_sound {all : List Oper} : ∀ (l : List Oper), l.all (dstIn N) = true → ∀ {fr : Fr} {L : List AO} {K : Fr → List AO → Prop} {ρ : Nat → Nat} {a : Act} {w : World} {Q : Exit → Act → World → Prop},
    wpOps X all l fr L K → Sim X.ng ρ (X.pad ++ L) w → FRel N D ρ (X.pad ++ L).length fr a →
    (∀ ρ' fr' L' a' w', K fr' L' → Sim X.ng ρ' (X.pad ++ L') w' → FRel N D ρ' (X.pad ++ L').length fr' a' → Ext ρ (X.pad ++ L) w ρ' (X.pad ++ L') w' → Q .normal a' w') →
    wpList X.P all.toArray Q l a w
  | [], _, fr, L, K, ρ, a, w, Q, h, hs, hf, hk => hk ρ fr L a w h hs hf (Ext.refl _ _ _)
  | o :: rest, hd, fr, L, K, ρ, a, w, Q, h, hs, hf, hk => by
    simp only [List.all_cons, Bool.and_eq_true] at hd
    have go : wpO X fr L o.op (fun v L' => wpOps X all rest (fr.put o.dst v) L' K) → o.wp X.P a w (wpList X.P all.toArray Q rest) Q := fun h => by
      have h1 := wpO_sound (o := o) (dstIn_spec hd.1) h hs hf Q
      refine Oper.wp_mono ?_ h1
      rintro a' w' ⟨ρ', v, L', hk', hs', hf', he'⟩
      exact ops_sound rest hd.2 hk' hs' hf' fun ρ2 fr2 L2 a2 w2 k s f e => hk ρ2 fr2 L2 a2 w2 k s f (he'.trans e)
    unfold wpOps at h
    unfold wpList
    split at h
    · rename_i hg
      have : Region.wanted o (yielded all.toArray a.tmps) = true := by simp [Region.wanted, hg]
      rw [this]; simp only [if_true]
      exact .inl (go h)
    · rename_i j want hg
      rcases onG_wanted hf hg h with ⟨hw, h⟩ | ⟨hw, h⟩
      · rw [hw]; simp only [if_true]
        exact .inl (go h)
      · rw [hw]; simp only [Bool.false_eq_true, if_false]
        have hp := hf.put (dstIn_spec hd.1) (v := .tuple #[]) (fun _ _ _ => by simp)
        have e : rl ρ (.tuple #[]) = undef := by simp [undef]
        rw [e] at hp
        exact ops_sound rest hd.2 h hs hp hk
theorem TC.mono {c : Code} {Q Q' : Exit → Fr → List AO → Prop} {fr : Fr} {L : List AO} (h : TC X N D n0 c Q fr L) (hq : ∀ e fr L, Q e fr L → Q' e fr L) : TC X N D n0 c Q' fr L :=
  fun ρ0 L0 w0 ρ a w h0 hs hf he => wp_mono (h ρ0 L0 w0 ρ a w h0 hs hf he) fun _ _ _ ⟨ρ', fr', L', q, r⟩ => ⟨ρ', fr', L', hq _ _ _ q, r⟩
theorem TC.seq {c d : Code} {Q : Exit → Fr → List AO → Prop} {fr : Fr} {L : List AO} (h : TC X N D n0 c (thenQ (TC X N D n0 d Q) Q) fr L) : TC X N D n0 (.seq c d) Q fr L :=
  fun ρ0 L0 w0 ρ a w h0 hs hf he => wp_seq (wp_mono (h ρ0 L0 w0 ρ a w h0 hs hf he) fun e a' w' ⟨ρ', fr', L', q, s, f, x⟩ => by
    cases e with
    | normal => exact q ρ0 L0 w0 ρ' a' w' h0 s f x
    | _ => exact ⟨ρ', fr', L', q, s, f, x⟩)
theorem TC.block {i : Nat} {c : Code} {Q : Exit → Fr → List AO → Prop} {fr : Fr} {L : List AO} (h : TC X N D n0 c (blockQ i Q) fr L) : TC X N D n0 (.block i c) Q fr L :=
  fun ρ0 L0 w0 ρ a w h0 hs hf he => wp_block (wp_mono (h ρ0 L0 w0 ρ a w h0 hs hf he) fun e a' w' ⟨ρ', fr', L', q, s, f, x⟩ => by
    cases e with
    | exit j =>
      simp only [blockQ] at q
      simp only [Exit.inBlock]
      split at q
      · rename_i hj; rw [if_pos hj]; exact ⟨ρ', fr', L', q, s, f, x⟩
      · rename_i hj; rw [if_neg hj]; exact ⟨ρ', fr', L', q, s, f, x⟩
    | _ => exact ⟨ρ', fr', L', q, s, f, x⟩)
theorem TC.scope {c : Code} {Q : Exit → Fr → List AO → Prop} {fr : Fr} {L : List AO} (h : TC X N D n0 c (scopeQ Q) fr L) : TC X N D n0 (.scope c) Q fr L :=
  fun ρ0 L0 w0 ρ a w h0 hs hf he => wp_scope_straight (wp_mono (h ρ0 L0 w0 ρ a w h0 hs hf he) fun e a' w' ⟨ρ', fr', L', q, s, f, x⟩ => by
    cases e with
    | goto l => exact q.elim
    | _ => exact ⟨ρ', fr', L', q, s, f, x⟩)
theorem wpC_sound : ∀ (c : Code), dstOk N c = true → ∀ {Q : Exit → Fr → List AO → Prop} {fr : Fr} {L : List AO}, wpC X N D n0 V c Q fr L → TC X N D n0 c Q fr L
  | .skip, _, Q, fr, L, h => fun ρ0 L0 w0 ρ a w h0 hs hf he => wp_skip ⟨ρ, fr, L, h, hs, hf, he⟩
  | .label _, _, Q, fr, L, h => fun ρ0 L0 w0 ρ a w h0 hs hf he => wp_label ⟨ρ, fr, L, h, hs, hf, he⟩
  | .exit _, _, Q, fr, L, h => fun ρ0 L0 w0 ρ a w h0 hs hf he => wp_exit ⟨ρ, fr, L, h, hs, hf, he⟩
  | .ret, _, Q, fr, L, h => fun ρ0 L0 w0 ρ a w h0 hs hf he => wp_ret ⟨ρ, fr, L, h, hs, hf, he⟩
  | .region id ops true, hd, Q, fr, L, h => fun ρ0 L0 w0 ρ a w h0 hs hf he => wp_mono (h ρ0 L0 w0 ρ a w h0 hs hf he) fun e a' w' ⟨ρ', fr', L', q, s, f, x⟩ => by
      cases e with
      | normal => exact ⟨ρ', _, L', q, s, f.keep V, x⟩
      | _ => exact q.elim
  | .region id ops false, hd, Q, fr, L, h => fun ρ0 L0 w0 ρ a w h0 hs hf he => by
      refine wp_region_list ?_
      have := ops_sound (X := X) (N := N) (D := D) (all := ops.toList) (Q := Post X N D ρ0 L0 w0 Q) ops.toList hd h hs hf fun ρ' fr' L' a' w' k s f e => ⟨ρ', _, L', k, s, f.keep V, he.trans e⟩
      simpa using this
  | .seq a b, hd, Q, fr, L, h => by
      simp only [dstOk, Bool.and_eq_true] at hd
      refine TC.seq ((wpC_sound a hd.1 h).mono fun e fr L q => ?_)
      cases e with
      | normal =>
        obtain ⟨s, hv, q⟩ := q
        intro ρ0 L0 w0 ρ a w h0 hs hf he
        obtain ⟨ρ', hs', hf', he'⟩ := hv N D ρ0 L0 w0 ρ a w h0 hs hf he
        exact wpC_sound b hd.2 q ρ0 L0 w0 ρ' a w h0 hs' hf' he'
      | _ => exact q
  | .cond c a b, hd, Q, fr, L, h => fun ρ0 L0 w0 ρ x w h0 hs hf he => by
      simp only [dstOk, Bool.and_eq_true] at hd
      obtain ⟨t, ht, h1, h2⟩ := onB_spec h
      obtain ⟨e, _⟩ := evO_sound hs hf ht
      exact wp_cond_split (by rw [e, rl_bool]) (fun ht => wpC_sound a hd.1 (h1 ht) ρ0 L0 w0 ρ x w h0 hs hf he) (fun ht => wpC_sound b hd.2 (h2 ht) ρ0 L0 w0 ρ x w h0 hs hf he)
  | .block i c, hd, Q, fr, L, h => TC.block (wpC_sound c hd h)
  | .scope c, hd, Q, fr, L, h => TC.scope (wpC_sound c hd h)
  | .loop c, hd, Q, fr, L, h => h
  | .goto _, _, _, _, _, h => h.elim
  | .refuse _, _, _, _, _, h => h.elim
  | .rangeFunc .., _, _, _, _, h => h.elim
end
end Go.Tb
end
