/-
  A part of the proof (my own): of the texts that the claim's last text rests on: parts Fn, Loop.
-/
import Derived.Deep.LoopGhost
import Derived.Test.YtigjokkakcmmdaaGreatDoorT04
set_option linter.unusedSimpArgs false
set_option linter.unusedVariables false
section
namespace Go.Tb
open Go
def resV (X : Cx) (fr : Fr) (L : List AO) : List ResultVar → Option (List Value)
  | [] => some []
  | .tmp t :: rs => (fr.get t).bind fun v => (resV X fr L rs).map fun vs => v :: vs
  | .cell a t :: rs => ((fr.get a).bind (rdL X L t)).bind fun v => (resV X fr L rs).map fun vs => v :: vs
def resOf : List Value → Value
  | [v] => v
  | vs => .tuple vs.toArray
def retQ (X : Cx) (rs : List ResultVar) (K : Value → List AO → Prop) : Exit → Fr → List AO → Prop
  | .normal, fr, L | .ret, fr, L => onV (resV X fr L rs) fun vs => K (resOf vs) L
  | _, _, _ => False
@[congr] theorem retQ_congr (X rs K) {e e' : Exit} (fr : Fr) (L : List AO) (h : e = e') : retQ X rs K e fr L = retQ X rs K e' fr L := by rw [h]
theorem retQ_ret (X rs K) (fr : Fr) (L : List AO) : retQ X rs K .ret fr L = onV (resV X fr L rs) fun vs => K (resOf vs) L := rfl
theorem retQ_normal (X rs K) (fr : Fr) (L : List AO) : retQ X rs K .normal fr L = onV (resV X fr L rs) fun vs => K (resOf vs) L := rfl
def initFr : Nat → List Value → Fr
  | _, [] => []
  | i, v :: vs => (i, v) :: initFr (i + 1) vs
theorem initFr_get : ∀ (vs : List Value) (i t : Nat) (v : Value), (initFr i vs).get t = some v → i ≤ t ∧ vs[t - i]? = some v
  | [], _, _, _, h => by simp [initFr, Fr.get] at h
  | u :: vs, i, t, v, h => by
    simp only [initFr, Fr.get] at h
    split at h
    · rename_i e; subst e; simp only [Option.some.injEq] at h; subst h; simp
    · rename_i hne
      obtain ⟨h1, h2⟩ := initFr_get vs (i + 1) t v h
      refine ⟨by omega, ?_⟩
      rw [show t - i = (t - (i + 1)) + 1 by omega]
      simpa using h2
section
variable {X : Cx} {N n0 : Nat} {D : List Deferred} {V : List Nat}
theorem run_mapM {P : Program} {α β : Type} (f : α → Sem β) (w : World) : ∀ (l : List α) (vs : List β), l.length = vs.length → (∀ (i : Nat) (r : α) (v : β), l[i]? = some r → vs[i]? = some v → (f r).run P w = .ok v w) → (l.mapM f).run P w = .ok vs w
  | [], [], _, _ => by simp
  | r :: l, v :: vs, hl, h => by
    have h0 := h 0 r v rfl rfl
    have ih := run_mapM f w l vs (by simpa using hl) (fun i r v h1 h2 => h (i + 1) r v (by simpa using h1) (by simpa using h2))
    rw [List.mapM_cons]
    simp [h0, ih]
  | [], _ :: _, hl, _ => by simp at hl
  | _ :: _, [], hl, _ => by simp at hl
theorem resV_sound {fr : Fr} {L : List AO} {ρ : Nat → Nat} {a : Act} {w : World} (hs : Sim X.ng ρ (X.pad ++ L) w) (hf : FRel N D ρ (X.pad ++ L).length fr a) : ∀ (rs : List ResultVar) (vs : List Value), resV X fr L rs = some vs →
    (rs.length = vs.length ∧ (∀ v ∈ vs, WF (X.pad ++ L).length v) ∧ ∀ (i : Nat) (r : ResultVar) (v : Value), rs[i]? = some r → (vs.map (rl ρ))[i]? = some v →
      (match r with | .tmp t => pure (a.tmps.getD t undef) | .cell p t => (do loadVar t (← asAddr (a.tmps.getD p undef))) : Sem Value).run X.P w = .ok v w)
  | [], vs, h => by simp [resV] at h; subst h; simp
  | .tmp t :: rs, vs, h => by
    simp only [resV] at h
    cases ht : fr.get t with
    | none => simp [ht] at h
    | some v =>
      cases hr : resV X fr L rs with
      | none => simp [ht, hr] at h
      | some us =>
        simp [ht, hr] at h; subst h
        obtain ⟨h1, h2, h3⟩ := resV_sound hs hf rs us hr
        obtain ⟨e, hw⟩ := hf.tmps t v ht
        refine ⟨by simp [h1], fun u hu => ?_, fun i r u hi hu => ?_⟩
        · cases hu with
          | head => exact hw
          | tail _ hu => exact h2 u hu
        · cases i with
          | zero => simp at hi hu; subst hi; subst hu; simp [e]
          | succ i => simp at hi hu; exact h3 i r u hi (by simpa using hu)
  | .cell p t :: rs, vs, h => by
    simp only [resV] at h
    cases hp : fr.get p with
    | none => simp [hp] at h
    | some q =>
      cases hv : rdL X L t q with
      | none => simp [hp, hv] at h
      | some v =>
        cases hr : resV X fr L rs with
        | none => simp [hp, hv, hr] at h
        | some us =>
          simp [hp, hv, hr] at h; subst h
          obtain ⟨h1, h2, h3⟩ := resV_sound hs hf rs us hr
          obtain ⟨e, hw⟩ := hf.tmps p q hp
          have hv' := hv
          rw [← rdL_eq] at hv'
          obtain ⟨e2, hw2⟩ := rdM_sound hs hv'
          refine ⟨by simp [h1], fun u hu => ?_, fun i r u hi hu => ?_⟩
          · cases hu with
            | head => exact hw2
            | tail _ hu => exact h2 u hu
          · cases i with
            | zero =>
              simp at hi hu; subst hi; subst hu
              have hq : ∃ b o, q = .pointer (some ⟨b, o, none⟩) := by
                unfold rdL at hv
                split at hv
                · exact ⟨_, _, rfl⟩
                · cases hv
              obtain ⟨b, o, rfl⟩ := hq
              simp only [rl_ptr, Instr.loadAt, Instr.sureAddr, Sem.run_bind, Sem.run_pure, Result.andThen_ok] at e2
              simp [e, asAddr, e2]
            | succ i => simp at hi hu; exact h3 i r u hi (by simpa using hu)
theorem run_results {fn : Func} {fr : Fr} {L : List AO} {ρ : Nat → Nat} {a : Act} {w : World} (hs : Sim X.ng ρ (X.pad ++ L) w) (hf : FRel N D ρ (X.pad ++ L).length fr a) {vs : List Value} (h : resV X fr L fn.results.toList = some vs) :
    (results fn a.tmps).run X.P w = .ok (rl ρ (resOf vs)) w ∧ WF (X.pad ++ L).length (resOf vs) := by
  obtain ⟨h1, h2, h3⟩ := resV_sound hs hf fn.results.toList vs h
  constructor
  · unfold results
    rw [← Array.toArray_toList (xs := fn.results), List.mapM_toArray]
    simp only [Sem.run_bind, map_eq_pure_bind]
    rw [run_mapM (P := X.P) _ w fn.results.toList (vs.map (rl ρ)) (by simpa using h1) (fun i r v hr hv => by have := h3 i r v hr hv; cases r <;> exact this)]
    simp only [Result.andThen_ok, Sem.run_pure]
    congr 1
    match vs with
    | [] => simp [resOf]
    | [v] => simp [resOf]
    | u :: v :: vs => simp [resOf]
  · match vs, h2 with
    | [], _ => exact fun _ _ _ => by simp [resOf]
    | [v], h2 => exact h2 v (by simp)
    | u :: v :: vs, h2 => exact WF_tuple.2 (by simpa [resOf] using h2)
theorem start {f : FuncId} {fn : Func} {c : Code} {vs : List Value} {L : List AO} {K : Value → List AO → Prop} (V : List Nat) (hf : X.P.funcs[f]? = some fn) (hb : fn.body = some c) (hn : (fn.name == "runtime.NumGoroutine") = false)
    (hN : fn.ntmps = N) (hd : dstOk N c = true) (hl : vs.length ≤ N) (h : wpC X N [] L.length V c (retQ X fn.results.toList K) (initFr 0 vs) L) : CallM X f vs L K := by
  subst hN
  refine ⟨by simp [callOk, hf, hb, hn], fun ρ w hs hw => ?_⟩
  refine calls_of_wp hf hb ?_
  have hfr : FRel fn.ntmps [] ρ (X.pad ++ L).length (initFr 0 vs) ⟨(vs.map (rl ρ)).toArray ++ Array.replicate (fn.ntmps - (vs.map (rl ρ)).toArray.size) undef, []⟩ := by
    refine ⟨by simp; omega, rfl, fun t v hv => ?_⟩
    obtain ⟨_, h2⟩ := initFr_get vs 0 t v hv
    simp only [Nat.sub_zero] at h2
    have ht : t < vs.length := (List.getElem?_eq_some_iff.1 h2).1
    refine ⟨?_, hw v (List.mem_of_getElem? h2)⟩
    rw [Array.getElem?_append_left (by simpa using ht)]
    simp [h2]
  refine wp_mono (wpC_sound c hd h ρ L w ρ _ w rfl hs hfr (Ext.refl _ _ _)) ?_
  rintro e a' w' ⟨ρ', fr', L', q, s, f, x⟩
  have key : ∀ e, (e = .normal ∨ e = .ret) → onV (resV X fr' L' fn.results.toList) (fun vs => K (resOf vs) L') → bodyPost X.P fn (fun e w' => ∃ ρ' v L', e = .returned (rl ρ' v) ∧ K v L' ∧ WF (X.pad ++ L').length v ∧ Sim X.ng ρ' (X.pad ++ L') w' ∧ Ext ρ (X.pad ++ L) w ρ' (X.pad ++ L') w') e a' w' := by
    intro e he q
    obtain ⟨us, hus, hk⟩ := onV_spec q
    obtain ⟨h1, h2⟩ := run_results (fn := fn) s f hus
    rcases he with rfl | rfl <;> exact ⟨f.defers, _, h1, ρ', _, L', rfl, hk, h2, s, x⟩
  cases e with
  | normal => exact key _ (.inl rfl) q
  | ret => exact key _ (.inr rfl) q
  | _ => exact q.elim
def Pl (v : Value) : Prop := ∀ ρ, rl ρ v = v
theorem Pl.wf {v : Value} (h : Pl v) (n : Nat) : WF n v := fun _ _ _ => by rw [h, h]
theorem Pl.int {k : IntKind} {n : Int} : Pl (.int k n) := fun _ => by simp
theorem Pl.bool {b : Bool} : Pl (.bool b) := fun _ => by simp
theorem Pl.str {b : ByteArray} : Pl (.string b) := fun _ => by simp
theorem Pl.agg {l : List Value} (h : ∀ v ∈ l, Pl v) : Pl (.agg l.toArray) := fun ρ => by
  have : l.map (rl ρ) = l := by
    conv => rhs; rw [← List.map_id l]
    exact List.map_congr_left fun v hv => h v hv ρ
  simp [this]
theorem Pl.tuple {l : List Value} (h : ∀ v ∈ l, Pl v) : Pl (.tuple l.toArray) := fun ρ => by
  have : l.map (rl ρ) = l := by
    conv => rhs; rw [← List.map_id l]
    exact List.map_congr_left fun v hv => h v hv ρ
  simp [this]
structure FnP (X : Cx) (f : FuncId) (vs : List Value) (v : Value) : Prop where
  args : ∀ u ∈ vs, Pl u
  res : Pl v
  call : CallM X f vs [] fun u _ => u = v
theorem sim_pad {ρ : Nat → Nat} {L : List AO} {w : World} (hs : Sim X.ng ρ (X.pad ++ L) w) : Sim X.ng ρ (X.pad ++ []) w := by
  rw [List.append_nil]
  have hlen := X.len
  have hro : ∀ (i : Nat) (o : AO), X.pad[i]? = some o → (X.pad ++ L)[i]? = some o := fun i o h => by
    rw [List.getElem?_append_left (List.getElem?_eq_some_iff.1 h).1]; exact h
  refine ⟨by have := X.ngl; omega, hs.glob, fun i j o h hw => ?_, fun i hi => hs.lt i (by simp; omega), fun i c T h => ?_, fun i b c h => ?_, fun i o h => ?_⟩
  · have := X.ro i o h; rw [this] at hw; cases hw
  · have := X.ro i _ h; cases this
  · refine ⟨(hs.ro i b c (hro i _ h)).1, ?_⟩
    rw [hlen]; exact X.wf i b c h
  · have := X.ro i _ h; cases this
theorem sim_back {ρ ρ' : Nat → Nat} {L L' : List AO} {w w' : World} (hs : Sim X.ng ρ (X.pad ++ L) w) (hx : Ext ρ (X.pad ++ []) w ρ' (X.pad ++ L') w') : Sim X.ng ρ (X.pad ++ L) w' ∧ Ext ρ (X.pad ++ L) w ρ (X.pad ++ L) w' := by
  have hk : ∀ j, j < w.heap.size → w'.heap[j]? = w.heap[j]? := fun j hj => hx.keep j hj fun i o h hw => by
    rw [List.append_nil] at h
    have := X.ro i o h; rw [this] at hw; cases hw
  constructor
  · refine ⟨hs.ngl, hs.glob, hs.inj, fun i hi => Nat.lt_of_lt_of_le (hs.lt i hi) hx.size, fun i c T h => ?_, fun i b c h => ?_, fun i o h => ?_⟩
    · rw [hk _ (hs.lt i (List.getElem?_eq_some_iff.1 h).1)]; exact hs.cells i c T h
    · refine ⟨fun j v hv => ?_, (hs.ro i b c h).2⟩
      rw [World.cell?_of_block (w := w) (a := ⟨ρ i, b + j, none⟩) (hk _ (hs.lt i (List.getElem?_eq_some_iff.1 h).1))]
      exact (hs.ro i b c h).1 j v hv
    · rw [hk _ (hs.lt i (List.getElem?_eq_some_iff.1 h).1)]; exact hs.obj i o h
  · exact ⟨hx.os, hx.tape, hx.output, hx.size, Nat.le_refl _, fun _ _ => rfl, fun i o h h1 _ => by have := (List.getElem?_eq_some_iff.1 h1).1; omega, fun j hj _ => hk j hj, fun _ _ h _ => h⟩
theorem map_pl {vs : List Value} (h : ∀ u ∈ vs, Pl u) (ρ : Nat → Nat) : vs.map (rl ρ) = vs := by
  conv => rhs; rw [← List.map_id vs]
  exact List.map_congr_left fun v hv => h v hv ρ
theorem FnP.q {f : FuncId} {vs : List Value} {v : Value} (h : FnP X f vs v) {L : List AO} {K : Value → Prop} (hk : K v) : CallQ X f vs L K :=
  ⟨h.call.1, v, hk, h.res.wf _, fun ρ w hs _ => (h.call.2 ρ w (sim_pad hs) fun u hu => (h.args u hu).wf _).mono fun e w' ⟨ρ', u, L', he, hu, _, _, hx⟩ => by
    subst hu
    obtain ⟨h1, h2⟩ := sim_back hs hx
    exact ⟨by rw [he, h.res, h.res], h1, h2⟩⟩
theorem FnP.m {f : FuncId} {vs : List Value} {v : Value} (h : FnP X f vs v) {L : List AO} {K : Value → List AO → Prop} (hk : K v L) : CallM X f vs L K :=
  ⟨h.call.1, fun ρ w hs hw => ((h.q (L := L) (K := fun u => u = v) rfl).2.choose_spec.2.2 ρ w hs hw).mono fun e w' ⟨he, h1, h2⟩ => ⟨ρ, v, L, by
    rw [he, (h.q (L := L) (K := fun u => u = v) rfl).2.choose_spec.1], hk, h.res.wf _, h1, h2⟩⟩
theorem qs_sound {all : List Oper} {L : List AO} {ρ : Nat → Nat} {w0 : World} : ∀ (l : List Oper), l.all (dstIn N) = true → ∀ {fr : Fr} {K : Fr → Prop} {a : Act}, wpQs X all L l fr K → Sim X.ng ρ (X.pad ++ L) w0 → FRel N D ρ (X.pad ++ L).length fr a →
    wpQuiet X.P all.toArray (fun w' => Sim X.ng ρ (X.pad ++ L) w' ∧ Ext ρ (X.pad ++ L) w0 ρ (X.pad ++ L) w') (fun a' => ∃ fr', K fr' ∧ FRel N D ρ (X.pad ++ L).length fr' a') l a
  | [], _, fr, K, a, h, hs, hf => ⟨fr, h, hf⟩
  | o :: rest, hd, fr, K, a, h, hs, hf => by
    simp only [List.all_cons, Bool.and_eq_true] at hd
    have go : wpQ X fr L o.op (fun v => wpQs X all L rest (fr.put o.dst v) K) → o.quiet X.P a (fun w' => Sim X.ng ρ (X.pad ++ L) w' ∧ Ext ρ (X.pad ++ L) w0 ρ (X.pad ++ L) w') (wpQuiet X.P all.toArray (fun w' => Sim X.ng ρ (X.pad ++ L) w' ∧ Ext ρ (X.pad ++ L) w0 ρ (X.pad ++ L) w') (fun a' => ∃ fr', K fr' ∧ FRel N D ρ (X.pad ++ L).length fr' a') rest) := fun hq => by
      clear h
      obtain ⟨dst, op, type, pos, after, guard⟩ := o
      have ev : ∀ {x : Operand} {v : Value}, evO X.ng fr x = some v → a.eval x = rl ρ v ∧ WF (X.pad ++ L).length v := fun h => evO_sound hs hf h
      simp only at hq
      unfold wpQ at hq
      split at hq
      · rename_i t x
        obtain ⟨v, hv, hk⟩ := onV_spec hq
        cases hx : evO X.ng fr x with
        | none => simp [hx] at hv
        | some p =>
          simp only [hx, Option.bind_some] at hv
          rw [← rdL_eq] at hv
          obtain ⟨e, hw⟩ := ev hx
          refine ⟨rl ρ v, fun w' hw' => ?_, qs_sound rest hd.2 hk hs (hf.put (dstIn_spec hd.1) (rdM_sound hs hv).2)⟩
          unfold Oper.quietAt
          have : (execOp a.eval ⟨dst, .load t x, type, pos, after, guard⟩).run X.P w' = .ok (.value (rl ρ v)) w' := by simp [execOp, e, (rdM_sound hw'.1 hv).1]
          rw [this]; exact ⟨rfl, rfl⟩
      · rename_i f args _
        obtain ⟨g, hg, hq⟩ := onV_spec hq
        obtain ⟨vs, hvs, hcall⟩ := onV_spec hq
        cases hx : evO X.ng fr f with
        | none => simp [hx] at hg
        | some fv =>
          simp only [hx, Option.bind_some] at hg
          obtain ⟨e, hw⟩ := ev hx
          obtain ⟨he, hwv⟩ := evs_sound hs hf hvs
          have hfv := fnOf_spec hg
          subst hfv
          rw [rl_func] at e
          have hwall : ∀ v ∈ g.2.1 ++ vs ++ g.2.2, WF (X.pad ++ L).length v := by
            have hin : ∀ v ∈ g.2.1 ++ g.2.2, WF (X.pad ++ L).length v := by
              intro v hv ρ1 ρ2 hr
              have := hw ρ1 ρ2 hr
              simp only [rl_func, Value.func.injEq, true_and] at this
              obtain ⟨t1, t2⟩ := this
              have t1 : g.2.1.map (rl ρ1) = g.2.1.map (rl ρ2) := by simpa using congrArg Array.toList t1
              have t2 : g.2.2.map (rl ρ1) = g.2.2.map (rl ρ2) := by simpa using congrArg Array.toList t2
              rcases List.mem_append.1 hv with hv | hv
              · exact List.map_inj_left.1 t1 v hv
              · exact List.map_inj_left.1 t2 v hv
            intro v hv
            simp only [List.mem_append] at hv
            rcases hv with (hv | hv) | hv
            · exact hin v (List.mem_append_left _ hv)
            · exact hwv v hv
            · exact hin v (List.mem_append_right _ hv)
          obtain ⟨hok, v, hk, hvw, hc⟩ := hcall
          refine ⟨rl ρ v, fun w' hw' => ?_, qs_sound rest hd.2 hk hs (hf.put (dstIn_spec hd.1) hvw)⟩
          have hrun := run_call (P := X.P) (args := args) (tys := ‹_›) (dst := dst) (ty := type) (pos := pos) (after := after) (guard := guard) e hok w'
          unfold Oper.quietAt
          rw [hrun]
          refine ⟨rfl, ?_⟩
          have hargs : (g.2.1.toArray.map (rl ρ) ++ args.map a.eval ++ g.2.2.toArray.map (rl ρ)) = ((g.2.1 ++ vs ++ g.2.2).map (rl ρ)).toArray := by
            apply Array.toList_inj.1
            simp [he]
          rw [hargs]
          exact (hc ρ w' hw'.1 hwall).mono fun e1 w2 ⟨h1, h2, h3⟩ => ⟨h1, h2, hw'.2.trans h3⟩
      · rename_i t parts
        obtain ⟨v, hv, hk⟩ := onV_spec hq
        cases hp : pts X.ng fr parts.toList with
        | none => simp [hp] at hv
        | some ps =>
          simp only [hp, Option.bind_some] at hv
          obtain ⟨he, hwp⟩ := pts_sound hs hf hp
          have e1 : parts.map (fun p => (p.1, a.eval p.2)) = (ps.map fun p => (p.1, rl ρ p.2)).toArray := by apply Array.toList_inj.1; simpa using he
          refine ⟨rl ρ v, fun w' hw' => ?_, qs_sound rest hd.2 hk hs (hf.put (dstIn_spec hd.1) ((buildV_sound (ρ := ρ) hv w0).2 _ hwp))⟩
          unfold Oper.quietAt
          have : (execOp a.eval ⟨dst, .build t parts, type, pos, after, guard⟩).run X.P w' = .ok (.value (rl ρ v)) w' := by simp [execOp, e1, (buildV_sound (ρ := ρ) hv w').1]
          rw [this]; exact ⟨rfl, rfl⟩
      · obtain ⟨v, hv, hk⟩ := onV_spec hq
        obtain ⟨h1, h2⟩ := pureV_sound (o := ⟨dst, op, type, pos, after, guard⟩) hv hs hf
        refine ⟨rl ρ v, fun w' hw' => ?_, qs_sound rest hd.2 hk hs (hf.put (dstIn_spec hd.1) h2)⟩
        unfold Oper.quietAt
        rw [h1 w']; exact ⟨rfl, rfl⟩
    unfold wpQs at h
    unfold wpQuiet
    split at h
    · rename_i hg
      have : Region.wanted o (yielded all.toArray a.tmps) = true := by simp [Region.wanted, hg]
      rw [this]; simp only [if_true]
      exact go h
    · rename_i j want hg
      rcases onG_wanted hf hg h with ⟨hw, h⟩ | ⟨hw, h⟩
      · rw [hw]; simp only [if_true]
        exact go h
      · rw [hw]; simp only [Bool.false_eq_true, if_false]
        have hp := hf.put (dstIn_spec hd.1) (v := .tuple #[]) (fun _ _ _ => by simp)
        have e : rl ρ (.tuple #[]) = undef := by simp [undef]
        rw [e] at hp
        exact qs_sound rest hd.2 h hs hp
theorem wpQuiet_mono {P : Program} {ops : Array Oper} {C : World → Prop} {Q Q' : Act → Prop} (hq : ∀ a, Q a → Q' a) : ∀ (l : List Oper) (a : Act), wpQuiet P ops C Q l a → wpQuiet P ops C Q' l a
  | [], a, h => hq a h
  | o :: rest, a, h => by
    unfold wpQuiet at h ⊢
    split at h
    · rename_i hw; rw [if_pos hw]; exact Oper.quiet_mono (wpQuiet_mono hq rest) h
    · rename_i hw; rw [if_neg hw]; exact wpQuiet_mono hq rest _ h
theorem draw {id : Nat} {ops : Array Oper} {K : Fr → List AO → Prop} {fr : Fr} {L : List AO} (hB : Region.lexB .any ops = true) (hd : ops.toList.all (dstIn N) = true) (h : wpQs X ops.toList L ops.toList fr fun fr' => K fr' L) : DrawM X N D n0 id ops K fr L := by
  intro ρ0 L0 w0 ρ a w h0 hs hf he
  have hs1 : Sim X.ng ρ (X.pad ++ L) { w with drawn := w.drawn + 1 } := ⟨hs.ngl, hs.glob, hs.inj, hs.lt, hs.cells, fun i b c h => ⟨fun j v hv => (hs.ro i b c h).1 j v hv, (hs.ro i b c h).2⟩, hs.obj⟩
  have hx1 : Ext ρ (X.pad ++ L) w ρ (X.pad ++ L) { w with drawn := w.drawn + 1 } := ⟨rfl, rfl, rfl, Nat.le_refl _, Nat.le_refl _, fun _ _ => rfl, fun i o h h1 _ => by have := (List.getElem?_eq_some_iff.1 h1).1; omega, fun _ _ _ => rfl, fun _ _ h _ => h⟩
  refine wp_region_quiet (C := fun w' => Sim X.ng ρ (X.pad ++ L) w' ∧ Ext ρ (X.pad ++ L) w ρ (X.pad ++ L) w') X.mixed hB ⟨hs1, hx1⟩ ?_
  have := qs_sound (N := N) (D := D) (all := ops.toList) (w0 := w) ops.toList hd h hs hf
  simp only [Array.toArray_toList] at this
  refine wpQuiet_mono ?_ _ _ this
  rintro a' ⟨fr', hk, hf'⟩ w' ⟨h1, h2⟩
  exact ⟨ρ, fr', L, hk, h1, hf', he.trans h2⟩
end
end Go.Tb
end
section
namespace Go.Tb
open Go
section
variable {X : Cx} {N n0 : Nat} {D : List Deferred} {V : List Nat}
theorem loop {Y : Type} (st : Y → Fr × List AO) (good : Y → Prop) (μ : Y → Nat) (y0 : Y) {c : Code} {Q : Exit → Fr → List AO → Prop} {fr : Fr} {L : List AO} (hd : dstOk N c = true) (h0 : good y0) (e0 : VS X n0 (fr, L) (st y0))
    (round : ∀ y, good y → wpC X N D n0 V c (thenQ (fun fr' L' => ∃ z, good z ∧ μ z < μ y ∧ VS X n0 (fr', L') (st z)) Q) (st y).1 (st y).2) : LoopM X N D n0 c Q fr L := by
  intro ρ0 L0 w0 ρ a w hn hs hf he
  refine wp_loop_ghost (fun n a w => ∃ y ρ, good y ∧ μ y = n ∧ Sim X.ng ρ (X.pad ++ (st y).2) w ∧ FRel N D ρ (X.pad ++ (st y).2).length (st y).1 a ∧ Ext ρ0 (X.pad ++ L0) w0 ρ (X.pad ++ (st y).2) w) (μ y0) ?_ ?_
  · obtain ⟨ρ', s', f', e'⟩ := e0 N D ρ0 L0 w0 ρ a w hn hs hf he
    exact ⟨y0, ρ', h0, rfl, s', f', e'⟩
  · rintro n a w ⟨y, ρ, hg, rfl, hs, hf, he⟩
    refine wp_mono (wpC_sound c hd (round y hg) ρ0 L0 w0 ρ a w hn hs hf he) ?_
    rintro e a' w' ⟨ρ', fr', L', q, s, f, x⟩
    cases e with
    | normal =>
      obtain ⟨z, hz, hlt, hv⟩ := q
      obtain ⟨ρ2, s2, f2, x2⟩ := hv N D ρ0 L0 w0 ρ' a' w' hn s f x
      exact ⟨μ z, hlt, z, ρ2, hz, rfl, s2, f2, x2⟩
    | _ => exact ⟨ρ', fr', L', q, s, f, x⟩
end
section
variable {X : Cx} {n0 : Nat}
theorem VS.rename (σ : Nat → Nat) {fr fr' : Fr} {L L' : List AO}
    (hfix : ∀ i, i < 100 + n0 → σ i = i) (hlow : ∀ (i : Nat) (o : AO), i < n0 → L[i]? = some o → o.wr = false → L'[i]? = some o)
    (hlen : n0 ≤ L'.length) (hin : ∀ i, i < L'.length → σ (100 + i) < 100 + L.length)
    (hinj : ∀ (i j : Nat) (o : AO), L'[i]? = some o → o.wr = true → j < 100 + L'.length → σ (100 + i) = σ j → 100 + i = j)
    (hcells : ∀ (i : Nat) (c : List Value) (T : TypeId), L'[i]? = some (.cells c T) → (X.pad ++ L)[σ (100 + i)]? = some (.cells (c.map (rl σ)) T) ∧ ∀ v ∈ c, WF (100 + L'.length) v)
    (hro : ∀ (i z : Nat) (c : List Value), L'[i]? = some (.ro z c) → (X.pad ++ L)[σ (100 + i)]? = some (.ro z (c.map (rl σ))) ∧ ∀ v ∈ c, WF (100 + L'.length) v)
    (hobj : ∀ (i : Nat) (o : Obj), L'[i]? = some (.obj o) → (X.pad ++ L)[σ (100 + i)]? = some (.obj o))
    (hfr : ∀ t v, fr'.get t = some v → fr.get t = some (rl σ v) ∧ WF (100 + L'.length) v) : VS X n0 (fr, L) (fr', L') := by
  intro N D ρ0 L0 w0 ρ a w hn hs hf he
  have hP := X.len
  have hget : ∀ i (o : AO), (X.pad ++ L')[i]? = some o → (i < 100 ∧ X.pad[i]? = some o) ∨ (100 ≤ i ∧ L'[i - 100]? = some o) := fun i o h => by
    by_cases hi : i < 100
    · rw [List.getElem?_append_left (by omega)] at h; exact .inl ⟨hi, h⟩
    · rw [List.getElem?_append_right (by omega), hP] at h; exact .inr ⟨by omega, h⟩
  have hpadL : ∀ i (o : AO), X.pad[i]? = some o → (X.pad ++ L)[i]? = some o := fun i o h => by
    rw [List.getElem?_append_left (List.getElem?_eq_some_iff.1 h).1]; exact h
  have hwf : ∀ v, WF 100 v → rl σ v = v := fun v hv => by
    have h1 := hv σ (fun i => i) (fun i hi => hfix i (by omega))
    rw [h1, rl_id]
  have hw' : ∀ i (o : AO), (X.pad ++ L')[i]? = some o → o.wr = true → 100 ≤ i ∧ L'[i - 100]? = some o := fun i o h hw => by
    rcases hget i o h with ⟨_, h⟩ | h
    · have := X.ro i o h; rw [this] at hw; cases hw
    · exact h
  have hsin : ∀ i, i < (X.pad ++ L').length → σ i < (X.pad ++ L).length := fun i hi => by
    simp only [full_len] at hi ⊢
    by_cases h : i < 100
    · rw [hfix i (by omega)]; omega
    · have := hin (i - 100) (by omega)
      rwa [show 100 + (i - 100) = i by omega] at this
  refine ⟨fun i => ρ (σ i), ⟨?_, ?_, ?_, ?_, ?_, ?_, ?_⟩, ⟨hf.size, hf.defers, fun t v hv => ?_⟩, ?_⟩
  · have := X.ngl; simp only [full_len]; omega
  · intro g hg
    have := X.ngl
    show ρ (σ g) = g
    rw [hfix g (by omega), hs.glob g hg]
  · intro i j o h hw hj e
    obtain ⟨hi, h⟩ := hw' i o h hw
    have hso : ∃ p, (X.pad ++ L)[σ i]? = some p ∧ p.wr = true := by
      have e1 : 100 + (i - 100) = i := by omega
      cases o with
      | cells c T => have := (hcells _ c T h).1; rw [e1] at this; exact ⟨_, this, rfl⟩
      | obj o => have := hobj _ o h; rw [e1] at this; exact ⟨_, this, rfl⟩
      | any => cases hw
      | ro z c => cases hw
    obtain ⟨p, hp, hpw⟩ := hso
    have h1 := hs.inj (σ i) (σ j) p hp hpw (hsin j hj) e
    have h2 := hinj (i - 100) j o h hw (by rw [full_len] at hj; exact hj) (by rw [show 100 + (i - 100) = i by omega]; exact h1)
    omega
  · intro i hi
    exact hs.lt (σ i) (hsin i hi)
  · intro i c T h
    obtain ⟨hi, h⟩ := hw' i _ h rfl
    obtain ⟨h1, h2⟩ := hcells _ c T h
    rw [show 100 + (i - 100) = i by omega] at h1
    obtain ⟨h3, h4⟩ := hs.cells (σ i) _ T h1
    refine ⟨?_, by rw [full_len]; exact h2⟩
    rw [h3, List.map_map]
    congr 3
    exact List.map_congr_left fun v _ => rl_comp ρ σ v
  · intro i z c h
    have key : (X.pad ++ L)[σ i]? = some (.ro z (c.map (rl σ))) ∧ ∀ v ∈ c, WF (X.pad ++ L').length v := by
      rcases hget i _ h with ⟨hi, h⟩ | ⟨hi, h⟩
      · have hcw := X.wf i z c h
        have hm : c.map (rl σ) = c := by
          conv => rhs; rw [← List.map_id c]
          exact List.map_congr_left fun v hv => hwf v (hcw v hv)
        rw [hfix i (by omega), hm]
        exact ⟨hpadL i _ h, fun v hv => (hcw v hv).mono (by simp only [full_len]; omega)⟩
      · obtain ⟨h1, h2⟩ := hro _ z c h
        rw [show 100 + (i - 100) = i by omega] at h1
        exact ⟨h1, by rw [full_len]; exact h2⟩
    obtain ⟨h1, h2⟩ := key
    refine ⟨fun j v hv => ?_, h2⟩
    have := (hs.ro (σ i) z _ h1).1 j (rl σ v) (by simp [hv])
    rw [this, rl_comp]
  · intro i o h
    obtain ⟨hi, h⟩ := hw' i _ h rfl
    have := hobj _ o h
    rw [show 100 + (i - 100) = i by omega] at this
    exact hs.obj (σ i) o this
  · obtain ⟨h1, h2⟩ := hfr t v hv
    obtain ⟨h3, _⟩ := hf.tmps t _ h1
    exact ⟨by rw [h3, rl_comp], by rw [full_len]; exact h2⟩
  · refine ⟨he.os, he.tape, he.output, he.size, by simp only [full_len, hn]; omega, fun i hi => ?_, fun i o h1 h2 h3 => ?_, he.keep, fun i o h1 h2 => ?_⟩
    · simp only [full_len, hn] at hi
      show ρ (σ i) = ρ0 i
      rw [hfix i hi]; exact he.agree i (by simp only [full_len, hn]; exact hi)
    · simp only [full_len, hn] at h1
      obtain ⟨hi, h⟩ := hw' i o h2 h3
      have hso : ∃ p, (X.pad ++ L)[σ i]? = some p ∧ p.wr = true := by
        have e1 : 100 + (i - 100) = i := by omega
        cases o with
        | cells c T => have := (hcells _ c T h).1; rw [e1] at this; exact ⟨_, this, rfl⟩
        | obj o => have := hobj _ o h; rw [e1] at this; exact ⟨_, this, rfl⟩
        | any => cases h3
        | ro z c => cases h3
      obtain ⟨p, hp, hpw⟩ := hso
      refine he.new (σ i) p ?_ hp hpw
      simp only [full_len, hn]
      rcases Nat.lt_or_ge (σ i) (100 + n0) with hlt | hge
      · have h5 := hinj (i - 100) (σ i) o h h3 (by omega) (by rw [show 100 + (i - 100) = i by omega, hfix _ hlt])
        omega
      · exact hge
    · have h3 := he.stay i o h1 h2
      have hil : i < (X.pad ++ L0).length := (List.getElem?_eq_some_iff.1 h1).1
      simp only [full_len, hn] at hil
      by_cases hi : i < 100
      · rw [List.getElem?_append_left (by omega)] at h3 ⊢; exact h3
      · rw [List.getElem?_append_right (by omega), hP] at h3 ⊢
        exact hlow _ o (by omega) h3 h2
end
end Go.Tb
end
