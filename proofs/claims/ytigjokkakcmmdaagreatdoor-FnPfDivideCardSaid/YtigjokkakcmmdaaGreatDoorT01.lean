/-
  A part of the proof (my own): of the texts that the claim's last text rests on: parts Core, Ops.
-/
import Derived.Calls
import Derived.Tactics
import Derived.Deep.Quiet
import Derived.Scope
import Derived.Below
import Derived.KernelRfl
import Derived.Laws.Sem
import Derived.Laws.Entries
import Derived.Laws.Rows
import Derived.Deep.MidRow
set_option linter.unusedSimpArgs false
set_option linter.unusedVariables false
section
namespace Go.Tb
open Go
mutual
def rl (ρ : Nat → Nat) : Value → Value
  | .pointer (some a) => .pointer (some { a with block := ρ a.block })
  | .slice (some a) n c => .slice (some { a with block := ρ a.block }) n c
  | .map (some r) => .map (some (ρ r))
  | .chan (some r) => .chan (some (ρ r))
  | .func fn first captured => .func fn (rlA ρ first) (rlA ρ captured)
  | .iface t v => .iface t (rl ρ v)
  | .agg cs => .agg (rlA ρ cs)
  | .tuple vs => .tuple (rlA ρ vs)
  | v => v
def rlA (ρ : Nat → Nat) : Array Value → Array Value
  | ⟨l⟩ => ⟨rlL ρ l⟩
def rlL (ρ : Nat → Nat) : List Value → List Value
  | [] => []
  | v :: vs => rl ρ v :: rlL ρ vs
end
theorem rlL_map (ρ : Nat → Nat) (l : List Value) : rlL ρ l = l.map (rl ρ) := by
  induction l with
  | nil => rfl
  | cons v vs ih => simp [rlL, ih]
theorem rlA_map (ρ : Nat → Nat) (l : Array Value) : rlA ρ l = l.map (rl ρ) := by
  cases l with | mk l => simp [rlA, rlL_map]
@[simp] theorem rl_agg (ρ : Nat → Nat) (l : Array Value) : rl ρ (.agg l) = .agg (l.map (rl ρ)) := by simp [rl, rlA_map]
@[simp] theorem rl_tuple (ρ : Nat → Nat) (l : Array Value) : rl ρ (.tuple l) = .tuple (l.map (rl ρ)) := by simp [rl, rlA_map]
@[simp] theorem rl_func (ρ : Nat → Nat) (fn : Fn) (f c : Array Value) : rl ρ (.func fn f c) = .func fn (f.map (rl ρ)) (c.map (rl ρ)) := by simp [rl, rlA_map]
@[simp] theorem rl_int (ρ : Nat → Nat) (k : IntKind) (n : Int) : rl ρ (.int k n) = .int k n := by simp [rl]
@[simp] theorem rl_bool (ρ : Nat → Nat) (b : Bool) : rl ρ (.bool b) = .bool b := by simp [rl]
@[simp] theorem rl_string (ρ : Nat → Nat) (b : ByteArray) : rl ρ (.string b) = .string b := by simp [rl]
@[simp] theorem rl_ptr (ρ : Nat → Nat) (a : Addr) : rl ρ (.pointer (some a)) = .pointer (some { a with block := ρ a.block }) := by simp [rl]
@[simp] theorem rl_ptr0 (ρ : Nat → Nat) : rl ρ (.pointer none) = .pointer none := by simp [rl]
@[simp] theorem rl_slice (ρ : Nat → Nat) (a : Addr) (n c : Nat) : rl ρ (.slice (some a) n c) = .slice (some { a with block := ρ a.block }) n c := by simp [rl]
@[simp] theorem rl_slice0 (ρ : Nat → Nat) (n c : Nat) : rl ρ (.slice none n c) = .slice none n c := by simp [rl]
@[simp] theorem rl_map (ρ : Nat → Nat) (r : Nat) : rl ρ (.map (some r)) = .map (some (ρ r)) := by simp [rl]
@[simp] theorem rl_map0 (ρ : Nat → Nat) : rl ρ (.map none) = .map none := by simp [rl]
@[simp] theorem rl_iface (ρ : Nat → Nat) (t : TypeId) (v : Value) : rl ρ (.iface t v) = .iface t (rl ρ v) := by simp [rl]
@[simp] theorem rl_nilIface (ρ : Nat → Nat) : rl ρ .nilIface = .nilIface := by simp [rl]
@[simp] theorem rl_nilFunc (ρ : Nat → Nat) : rl ρ .nilFunc = .nilFunc := by simp [rl]
def WF (n : Nat) (v : Value) : Prop := ∀ ρ ρ' : Nat → Nat, (∀ i, i < n → ρ i = ρ' i) → rl ρ v = rl ρ' v
theorem WF.mono {n m : Nat} {v : Value} (h : WF n v) (hm : n ≤ m) : WF m v := fun ρ ρ' e => h ρ ρ' fun i hi => e i (by omega)
def kon : Value → Bool
  | .bool _ | .int _ _ | .string _ | .pointer none | .slice none _ _ | .map none | .chan none | .nilIface | .nilFunc | .float _ _ | .complex _ _ _ => true
  | .tuple vs => vs.isEmpty
  | .func (.func _) f c => f.isEmpty && c.isEmpty
  | .iface _ (.string _) => true
  | .iface _ (.int _ _) => true
  | .agg cs => cs.toList.all fun | .bool _ | .int _ _ | .string _ | .pointer none | .slice none _ _ | .map none | .nilIface | .nilFunc => true | _ => false
  | _ => false
theorem kon_rl {v : Value} (h : kon v = true) (ρ : Nat → Nat) : rl ρ v = v := by
  unfold kon at h
  split at h <;> try simp [rl]
  · rename_i vs; simp at h; subst h; rfl
  · rename_i f c; simp at h; obtain ⟨rfl, rfl⟩ := h; exact ⟨rfl, rfl⟩
  · rename_i cs
    have : cs.toList.map (rl ρ) = cs.toList := by
      rw [List.all_eq_true] at h
      conv => rhs; rw [← List.map_id cs.toList]
      refine List.map_congr_left fun v hv => ?_
      have := h v hv
      split at this <;> simp_all [rl]
    rw [rlA_map]
    apply Array.toList_inj.1
    simpa using this
  · simp at h
theorem kon_WF {v : Value} (h : kon v = true) (n : Nat) : WF n v := fun ρ ρ' _ => by rw [kon_rl h, kon_rl h]
inductive AO where
  | any
  | cells (c : List Value) (T : TypeId)
  | ro (b : Nat) (c : List Value)
  | obj (o : Obj)
def AO.wr : AO → Bool
  | .cells _ _ | .obj _ => true
  | _ => false
structure Sim (ng : Nat) (ρ : Nat → Nat) (L : List AO) (w : World) : Prop where
  ngl : ng ≤ L.length
  glob : ∀ g, g < ng → ρ g = g
  inj : ∀ (i j : Nat) (o : AO), L[i]? = some o → o.wr = true → j < L.length → ρ i = ρ j → i = j
  lt : ∀ i, i < L.length → ρ i < w.heap.size
  cells : ∀ (i : Nat) (c : List Value) (T : TypeId), L[i]? = some (.cells c T) → w.heap[ρ i]? = some (.cells (c.map (rl ρ)).toArray T (0, 0)) ∧ ∀ v ∈ c, WF L.length v
  ro : ∀ (i b : Nat) (c : List Value), L[i]? = some (.ro b c) → (∀ j v, c[j]? = some v → w.cell? ⟨ρ i, b + j, none⟩ = some (rl ρ v)) ∧ ∀ v ∈ c, WF L.length v
  obj : ∀ (i : Nat) (o : Obj), L[i]? = some (.obj o) → w.heap[ρ i]? = some o
structure Ext (ρ : Nat → Nat) (L : List AO) (w : World) (ρ' : Nat → Nat) (L' : List AO) (w' : World) : Prop where
  os : w'.os = w.os
  tape : w'.tape = w.tape
  output : w'.output = w.output
  size : w.heap.size ≤ w'.heap.size
  len : L.length ≤ L'.length
  agree : ∀ i, i < L.length → ρ' i = ρ i
  new : ∀ (i : Nat) (o : AO), L.length ≤ i → L'[i]? = some o → o.wr = true → w.heap.size ≤ ρ' i
  keep : ∀ j, j < w.heap.size → (∀ (i : Nat) (o : AO), L[i]? = some o → o.wr = true → ρ i ≠ j) → w'.heap[j]? = w.heap[j]?
  stay : ∀ (i : Nat) (o : AO), L[i]? = some o → o.wr = false → L'[i]? = some o
theorem Ext.refl (ρ : Nat → Nat) (L : List AO) (w : World) : Ext ρ L w ρ L w :=
  ⟨rfl, rfl, rfl, Nat.le_refl _, Nat.le_refl _, fun _ _ => rfl, fun i o h h' _ => by have := (List.getElem?_eq_some_iff.1 h').1; omega, fun _ _ _ => rfl, fun _ _ h _ => h⟩
theorem Ext.trans {ρ ρ1 ρ2 : Nat → Nat} {L L1 L2 : List AO} {w w1 w2 : World} (h : Ext ρ L w ρ1 L1 w1) (k : Ext ρ1 L1 w1 ρ2 L2 w2) : Ext ρ L w ρ2 L2 w2 where
  os := k.os.trans h.os
  tape := k.tape.trans h.tape
  output := k.output.trans h.output
  size := Nat.le_trans h.size k.size
  len := Nat.le_trans h.len k.len
  agree i hi := (k.agree i (Nat.lt_of_lt_of_le hi h.len)).trans (h.agree i hi)
  new i o h1 h2 h3 := by
    by_cases hi : i < L1.length
    · rw [k.agree i hi]
      have hl' : L1[i]? = some L1[i] := List.getElem?_eq_getElem hi
      cases hc : (L1[i]).wr with
      | true => exact h.new i _ h1 hl' hc
      | false =>
        have := k.stay i _ hl' hc
        rw [h2] at this; simp only [Option.some.injEq] at this
        rw [this] at h3; rw [h3] at hc; cases hc
    · exact Nat.le_trans h.size (k.new i o (by omega) h2 h3)
  keep j hj hn := by
    rw [k.keep j (Nat.lt_of_lt_of_le hj h.size) ?_]
    · exact h.keep j hj hn
    · intro i o ho hw
      have hi : i < L1.length := (List.getElem?_eq_some_iff.1 ho).1
      by_cases hl : i < L.length
      · rw [h.agree i hl]
        have hl' : L[i]? = some L[i] := List.getElem?_eq_getElem hl
        cases hc : (L[i]).wr with
        | true => exact hn i _ hl' hc
        | false =>
          have := h.stay i _ hl' hc
          rw [ho] at this
          simp only [Option.some.injEq] at this
          rw [this] at hw; rw [hw] at hc; cases hc
      · have := h.new i o (by omega) ho hw
        omega
  stay i o ho hw := k.stay i o (h.stay i o ho hw) hw
abbrev Fr := List (Nat × Value)
def Fr.get : Fr → Nat → Option Value
  | [], _ => none
  | (s, v) :: r, t => if s = t then some v else Fr.get r t
def Fr.keep : List Nat → Fr → Fr
  | [], _ => []
  | t :: ts, fr => match fr.get t with
    | some v => (t, v) :: Fr.keep ts fr
    | none => Fr.keep ts fr
def Fr.put (fr : Fr) (d : Option Tmp) (v : Value) : Fr := match d with
  | some t => (t, v) :: fr
  | none => fr
theorem Fr.keep_get {ts : List Nat} {fr : Fr} {t : Nat} {v : Value} (h : (Fr.keep ts fr).get t = some v) : fr.get t = some v := by
  induction ts with
  | nil => simp [Fr.keep, Fr.get] at h
  | cons s ts ih =>
    simp only [Fr.keep] at h
    split at h
    · rename_i u hu
      simp only [Fr.get] at h
      split at h
      · rename_i e; subst e; rw [hu, h]
      · exact ih h
    · exact ih h
structure FRel (N : Nat) (D : List Deferred) (ρ : Nat → Nat) (n : Nat) (fr : Fr) (a : Act) : Prop where
  size : a.tmps.size = N
  defers : a.defers = D
  tmps : ∀ t v, fr.get t = some v → a.tmps[t]? = some (rl ρ v) ∧ WF n v
theorem FRel.keep {N : Nat} {D : List Deferred} {ρ : Nat → Nat} {n : Nat} {fr : Fr} {a : Act} (h : FRel N D ρ n fr a) (ts : List Nat) : FRel N D ρ n (Fr.keep ts fr) a :=
  ⟨h.size, h.defers, fun t v hv => h.tmps t v (Fr.keep_get hv)⟩
theorem FRel.ext {N : Nat} {D : List Deferred} {ρ ρ' : Nat → Nat} {n n' : Nat} {fr : Fr} {a : Act} (h : FRel N D ρ n fr a) (hn : n ≤ n') (ha : ∀ i, i < n → ρ' i = ρ i) : FRel N D ρ' n' fr a :=
  ⟨h.size, h.defers, fun t v hv => by
    obtain ⟨h1, h2⟩ := h.tmps t v hv
    exact ⟨by rw [h1, h2 ρ ρ' fun i hi => (ha i hi).symm], h2.mono hn⟩⟩
theorem FRel.put {N : Nat} {D : List Deferred} {ρ : Nat → Nat} {n : Nat} {fr : Fr} {a : Act} (h : FRel N D ρ n fr a) {d : Option Tmp} (hd : ∀ t, d = some t → t < N) {v : Value} (hv : WF n v) :
    FRel N D ρ n (fr.put d v) (a.put d (rl ρ v)) := by
  cases d with
  | none => exact h
  | some t =>
    have ht := hd t rfl
    refine ⟨by simp [Act.put, h.size], by simpa [Act.put] using h.defers, fun s u hs => ?_⟩
    simp only [Fr.put, Fr.get] at hs
    split at hs
    · rename_i e; subst e
      simp only [Option.some.injEq] at hs; subst hs
      refine ⟨?_, hv⟩
      simp only [Act.put]
      rw [Array.getElem?_setIfInBounds_self_of_lt (by rw [h.size]; exact ht)]
    · rename_i e
      obtain ⟨h1, h2⟩ := h.tmps s u hs
      refine ⟨?_, h2⟩
      simp only [Act.put]
      rw [Array.getElem?_setIfInBounds_ne e]; exact h1
def evO (ng : Nat) (fr : Fr) : Operand → Option Value
  | .tmp t => fr.get t
  | .const v => if kon v then some v else none
  | .global g => if g < ng then some (.pointer (some ⟨g, 0, none⟩)) else none
  | .func f => some (.func (.func f) #[] #[])
theorem evO_sound {ng N : Nat} {D : List Deferred} {ρ : Nat → Nat} {L : List AO} {w : World} {fr : Fr} {a : Act} (hs : Sim ng ρ L w) (hf : FRel N D ρ L.length fr a) {x : Operand} {v : Value} (h : evO ng fr x = some v) :
    a.eval x = rl ρ v ∧ WF L.length v := by
  cases x with
  | tmp t =>
    obtain ⟨h1, h2⟩ := hf.tmps t v h
    exact ⟨by simp [Act.eval, h1], h2⟩
  | const c =>
    simp only [evO] at h
    split at h
    · rename_i hk
      simp only [Option.some.injEq] at h; subst h
      exact ⟨by rw [kon_rl hk]; rfl, kon_WF hk _⟩
    · cases h
  | global g =>
    simp only [evO] at h
    split at h
    · rename_i hg
      simp only [Option.some.injEq] at h; subst h
      refine ⟨by simp [Act.eval, hs.glob g hg], fun ρ ρ' e => by simp [e g (Nat.lt_of_lt_of_le hg hs.ngl)]⟩
    · cases h
  | func f =>
    simp only [evO, Option.some.injEq] at h; subst h
    exact ⟨by simp [Act.eval], fun _ _ _ => by simp⟩
def bnd {α β : Type} (o : Option α) (K : α → Option β) : Option β := o.bind K
def evs (ng : Nat) (fr : Fr) : List Operand → Option (List Value)
  | [] => some []
  | x :: xs => (evO ng fr x).bind fun v => (evs ng fr xs).map fun vs => v :: vs
theorem evs_sound {ng N : Nat} {D : List Deferred} {ρ : Nat → Nat} {L : List AO} {w : World} {fr : Fr} {a : Act} (hs : Sim ng ρ L w) (hf : FRel N D ρ L.length fr a) : ∀ {xs : List Operand} {vs : List Value}, evs ng fr xs = some vs →
    xs.map a.eval = vs.map (rl ρ) ∧ ∀ v ∈ vs, WF L.length v
  | [], vs, h => by simp [evs] at h; subst h; simp
  | x :: xs, vs, h => by
    simp only [evs] at h
    cases hx : evO ng fr x with
    | none => simp [hx] at h
    | some v =>
      cases hxs : evs ng fr xs with
      | none => simp [hx, hxs] at h
      | some us =>
        simp [hx, hxs] at h; subst h
        obtain ⟨h1, h2⟩ := evO_sound hs hf hx
        obtain ⟨h3, h4⟩ := evs_sound hs hf hxs
        refine ⟨by simp [h1, h3], fun v hv => ?_⟩
        cases hv with
        | head => exact h2
        | tail _ hv => exact h4 _ hv
end Go.Tb
end
section
namespace Go.Tb
open Go
mutual
theorem rl_id : ∀ v : Value, rl (fun i => i) v = v
  | .agg cs => by simp only [rl, rlA_id cs]
  | .tuple cs => by simp only [rl, rlA_id cs]
  | .func fn f c => by simp only [rl, rlA_id f, rlA_id c]
  | .iface t v => by simp only [rl, rl_id v]
  | .pointer (some a) => by simp [rl]
  | .pointer none => by simp [rl]
  | .slice (some a) _ _ => by simp [rl]
  | .slice none _ _ => by simp [rl]
  | .map (some a) => by simp [rl]
  | .map none => by simp [rl]
  | .chan (some a) => by simp [rl]
  | .chan none => by simp [rl]
  | .bool _ => by simp [rl]
  | .int _ _ => by simp [rl]
  | .float _ _ => by simp [rl]
  | .complex _ _ _ => by simp [rl]
  | .string _ => by simp [rl]
  | .nilFunc => by simp [rl]
  | .nilIface => by simp [rl]
theorem rlA_id : ∀ l : Array Value, rlA (fun i => i) l = l
  | ⟨l⟩ => by simp only [rlA, rlL_id l]
theorem rlL_id : ∀ l : List Value, rlL (fun i => i) l = l
  | [] => by simp only [rlL]
  | v :: vs => by simp only [rlL, rl_id v, rlL_id vs]
end
mutual
theorem rl_comp (ρ σ : Nat → Nat) : ∀ v : Value, rl ρ (rl σ v) = rl (fun i => ρ (σ i)) v
  | .agg cs => by simp only [rl, rlA_comp ρ σ cs]
  | .tuple cs => by simp only [rl, rlA_comp ρ σ cs]
  | .func fn f c => by simp only [rl, rlA_comp ρ σ f, rlA_comp ρ σ c]
  | .iface t v => by simp only [rl, rl_comp ρ σ v]
  | .pointer (some a) => by simp [rl]
  | .pointer none => by simp [rl]
  | .slice (some a) _ _ => by simp [rl]
  | .slice none _ _ => by simp [rl]
  | .map (some a) => by simp [rl]
  | .map none => by simp [rl]
  | .chan (some a) => by simp [rl]
  | .chan none => by simp [rl]
  | .bool _ => by simp [rl]
  | .int _ _ => by simp [rl]
  | .float _ _ => by simp [rl]
  | .complex _ _ _ => by simp [rl]
  | .string _ => by simp [rl]
  | .nilFunc => by simp [rl]
  | .nilIface => by simp [rl]
theorem rlA_comp (ρ σ : Nat → Nat) : ∀ l : Array Value, rlA ρ (rlA σ l) = rlA (fun i => ρ (σ i)) l
  | ⟨l⟩ => by simp only [rlA, rlL_comp ρ σ l]
theorem rlL_comp (ρ σ : Nat → Nat) : ∀ l : List Value, rlL ρ (rlL σ l) = rlL (fun i => ρ (σ i)) l
  | [] => by simp only [rlL]
  | v :: vs => by simp only [rlL, rl_comp ρ σ v, rlL_comp ρ σ vs]
end
def tInt (P : Program) (t : TypeId) : Option IntKind := match P.underlying t with
  | some (.int k) => some k
  | _ => none
def tStr (P : Program) (t : TypeId) : Bool := match P.underlying t with
  | some .string => true
  | _ => false
def tSz (P : Program) (t : TypeId) : Option (Bool × Nat) := match P.underlying t, P.info? t with
  | some (.struct _), some i | some (.array _ _), some i => some (true, i.size)
  | some _, some i => some (false, i.size)
  | _, _ => none
def tFld (P : Program) (t : TypeId) (f : Nat) : Option (Nat × Bool × Nat) := match P.underlying t with
  | some (.struct fs) => match fs[f]? with
    | some x => match tSz P x.type with
      | some (b, s) => if s = 0 then none else some (x.offset, b, s)
      | none => none
    | none => none
  | _ => none
def tElem (P : Program) (t : TypeId) : Option (Option Nat × TypeId × Bool × Nat) := match P.underlying t with
  | some (.array n e) => (tSz P e).map fun (b, s) => (some n, e, b, s)
  | some (.slice e) => (tSz P e).map fun (b, s) => (none, e, b, s)
  | _ => none
def tZero (P : Program) (t : TypeId) : Option (List Value) := match P.info? t with
  | some i => match i.zero with
    | some z => if z.cells.toList.all kon && z.cells.size == i.size then some z.cells.toList else none
    | none => none
  | none => none
section
variable {P : Program}
theorem run_sizeOf {t : TypeId} {b : Bool} {s : Nat} (h : tSz P t = some (b, s)) (w : World) : (sizeOf t).run P w = .ok s w := by
  unfold tSz at h
  split at h <;> simp_all [sizeOf, typeInfo]
theorem run_isAgg {t : TypeId} {b : Bool} {s : Nat} (h : tSz P t = some (b, s)) (w : World) : (isAgg t).run P w = .ok b w := by
  unfold tSz at h
  split at h <;> try (simp at h)
  · rename_i h1 h2; simp [isAgg, underlying, h1, h.1.symm]
  · rename_i h1 h2; simp [isAgg, underlying, h1, h.1.symm]
  · rename_i d i hn1 hn2 h1 h2
    simp only [isAgg, Sem.run_bind, run_underlying h1 w, Result.andThen_ok]
    cases d <;> simp_all
def band (k : IntKind) (a b : Int) : Int := k.wrap (BitVec.ofInt k.bits a &&& BitVec.ofInt k.bits b).toNat
def bor (k : IntKind) (a b : Int) : Int := k.wrap (BitVec.ofInt k.bits a ||| BitVec.ofInt k.bits b).toNat
def bxor (k : IntKind) (a b : Int) : Int := k.wrap (BitVec.ofInt k.bits a ^^^ BitVec.ofInt k.bits b).toNat
def bandn (k : IntKind) (a b : Int) : Int := k.wrap (BitVec.ofInt k.bits a &&& ~~~ BitVec.ofInt k.bits b).toNat
def bnot (k : IntKind) (a : Int) : Int := bxor k (if k.signed then -1 else k.max) a
def bshl (k : IntKind) (a b : Int) : Int := k.wrap (a * 2 ^ (min b.toNat k.bits))
def bshr (k : IntKind) (a b : Int) : Int := a.fdiv (2 ^ (min b.toNat k.bits))
def binI (op : BinOp) (k : IntKind) (a b : Int) : Option Value := match op with
  | .add => some (.int k (k.wrap (a + b)))
  | .sub => some (.int k (k.wrap (a - b)))
  | .mul => some (.int k (k.wrap (a * b)))
  | .and => some (.int k (band k a b))
  | .or => some (.int k (bor k a b))
  | .xor => some (.int k (bxor k a b))
  | .andNot => some (.int k (bandn k a b))
  | .quo => if b = 0 then none else some (.int k (k.wrap (a.tdiv b)))
  | .rem => if b = 0 then none else some (.int k (a.tmod b))
  | .eql => some (.bool (decide (a = b)))
  | .neq => some (.bool (!decide (a = b)))
  | .lss => some (.bool (decide (a < b)))
  | .leq => some (.bool (decide (a ≤ b)))
  | .gtr => some (.bool (decide (b < a)))
  | .geq => some (.bool (decide (b ≤ a)))
  | _ => none
def binSh (op : BinOp) (k : IntKind) (a b : Int) : Option Value := match op with
  | .shl => if b < 0 then none else some (.int k (bshl k a b))
  | .shr => if b < 0 then none else some (.int k (bshr k a b))
  | _ => none
def binS (op : BinOp) (a b : ByteArray) : Option Value := match op with
  | .eql => some (.bool (a.toList == b.toList))
  | .neq => some (.bool (!(a.toList == b.toList)))
  | .lss => some (.bool (Op.bytesLess a.toList b.toList))
  | .add => if a.size + b.size ≤ 9223372036854775807 then some (.string (a ++ b)) else none
  | _ => none
def eqV0 (P : Program) (t : TypeId) (x y : Value) : Option Bool := match P.underlying t, x, y with
  | some .bool, .bool a, .bool b => some (a == b)
  | some (.pointer _), .pointer none, .pointer b => some b.isNone
  | some (.pointer _), .pointer (some _), .pointer none => some false
  | some (.slice _), .slice none _ _, .slice b _ _ => some b.isNone
  | some (.slice _), .slice (some _) _ _, .slice none _ _ => some false
  | some (.map _ _), .map none, .map b => some b.isNone
  | some (.map _ _), .map (some _), .map none => some false
  | some (.interface _), .nilIface, .iface _ _ => some false
  | some (.interface _), .iface _ _, .nilIface => some false
  | _, _, _ => none
def aggEq (P : Program) (t : TypeId) (x y : Value) (b : Bool) : Prop := ∀ (ρ : Nat → Nat) (w : World), (Op.equal t (rl ρ x) (rl ρ y)).run P w = .ok b w ∧ ∀ op p q, (eqGuard op t p q (rl ρ x) (rl ρ y)).run P w = .ok () w
open Classical in
noncomputable def eqA (P : Program) (t : TypeId) (x y : Value) : Option Bool := if aggEq P t x y true then some true else if aggEq P t x y false then some false else none
theorem eqA_spec {P : Program} {t : TypeId} {x y : Value} {b : Bool} (h : eqA P t x y = some b) : aggEq P t x y b := by
  unfold eqA at h
  split at h
  · rename_i h1; simp only [Option.some.injEq] at h; subst h; exact h1
  · split at h
    · rename_i h1; simp only [Option.some.injEq] at h; subst h; exact h1
    · cases h
theorem eqA_of {P : Program} {t : TypeId} {x y : Value} {b : Bool} (h : aggEq P t x y b) : eqA P t x y = some b := by
  unfold eqA
  cases b
  · split
    · rename_i h1
      have a := (h1 id default).1; have c := (h id default).1
      rw [a] at c; cases c
    · rfl
  · rw [if_pos h]
noncomputable def eqV (P : Program) (t : TypeId) (x y : Value) : Option Bool := match x, y with
  | .agg a, .agg b => eqA P t (.agg a) (.agg b)
  | x, y => eqV0 P t x y
theorem eqV_or {P : Program} {t : TypeId} {x y : Value} {b : Bool} (h : eqV P t x y = some b) : (∃ a c, x = .agg a ∧ y = .agg c ∧ aggEq P t (.agg a) (.agg c) b) ∨ eqV0 P t x y = some b := by
  unfold eqV at h
  split at h
  · exact .inl ⟨_, _, rfl, rfl, eqA_spec h⟩
  · exact .inr h
theorem eqV_of0 {P : Program} {t : TypeId} {x y : Value} {b : Bool} (h : eqV0 P t x y = some b) : eqV P t x y = some b := by
  unfold eqV
  split
  · unfold eqV0 at h; split at h <;> simp_all
  · exact h
noncomputable def binV (P : Program) (op : BinOp) (t : TypeId) (x y : Value) : Option Value := match x, y with
  | .int k a, .int k' b => match op with
    | .shl | .shr => binSh op k a b
    | _ => if k = k' then binI op k a b else none
  | .string a, .string b => binS op a b
  | x, y => match op with
    | .eql => (eqV P t x y).map .bool
    | .neq => (eqV P t x y).map fun b => .bool !b
    | _ => none
theorem run_binI {op : BinOp} {t : TypeId} {k : IntKind} {a b : Int} {v : Value} (hop : op ≠ .shl ∧ op ≠ .shr) (h : binI op k a b = some v) (w : World) : (binOp op t (.int k a) (.int k b)).run P w = .ok v w := by
  have e : ∀ x y : Int, (x == y) = decide (x = y) := fun x y => by by_cases h : x = y <;> simp [h]
  have e' : ∀ x y : Int, (x != y) = !decide (x = y) := fun x y => by by_cases h : x = y <;> simp [h]
  cases op <;> simp only [binI, Option.some.injEq] at h <;> first
    | (subst h; simp [binOp, Op.intArith, Op.intBits, Op.intCmp, band, bor, bxor, bandn, e, e']; done)
    | (split at h
       · cases h
       · rename_i hb; simp only [Option.some.injEq] at h; subst h; simp [binOp, Op.intDiv, hb])
    | (exact absurd rfl hop.1)
    | (exact absurd rfl hop.2)
    | cases h
theorem run_binSh {op : BinOp} {t : TypeId} {k k' : IntKind} {a b : Int} {v : Value} (h : binSh op k a b = some v) (w : World) : (binOp op t (.int k a) (.int k' b)).run P w = .ok v w := by
  cases op <;> simp only [binSh] at h <;> first
    | (split at h
       · cases h
       · rename_i hb; simp only [Option.some.injEq] at h; subst h; simp [binOp, Op.shift, hb, bshl, bshr])
    | cases h
theorem run_binS {op : BinOp} {t : TypeId} {a b : ByteArray} {v : Value} (h : binS op a b = some v) (w : World) : (binOp op t (.string a) (.string b)).run P w = .ok v w := by
  cases op <;> simp only [binS, Option.some.injEq] at h <;> first
    | (subst h; simp [binOp, Op.stringOp]; done)
    | (split at h
       · rename_i hb; simp only [Option.some.injEq] at h; subst h
         have : ¬ (((a.size + b.size : Nat) : Int) > IntKind.i64.max) := by simp [IntKind.max, IntKind.signed, IntKind.bits]; omega
         simp only [binOp, Op.stringOp]
         rw [if_neg this]; simp
       · cases h)
    | cases h
theorem run_eqVIn (d : Nat) {t : TypeId} {x y : Value} {b : Bool} (h : eqV0 P t x y = some b) (w : World) : (Op.equalIn (d + 1) t x y).run P w = .ok b w := by
  unfold eqV0 at h
  rw [Op.equalIn, Sem.run_bind]
  split at h <;> simp only [Option.some.injEq, reduceCtorEq] at h <;> subst h <;> rename_i hu <;> simp only [run_underlying hu, Result.andThen_ok, Sem.run_pure]
theorem run_eqV {t : TypeId} {x y : Value} {b : Bool} (h : eqV P t x y = some b) (w : World) : (Op.equal t x y).run P w = .ok b w := by
  rcases eqV_or h with ⟨a, c, rfl, rfl, hq⟩ | h
  · have := (hq (fun i => i) w).1
    rwa [rl_id, rl_id] at this
  · exact run_eqVIn 9999 h w
theorem eqV_rl0 {t : TypeId} {x y : Value} {b : Bool} (h : eqV0 P t x y = some b) (ρ : Nat → Nat) : eqV0 P t (rl ρ x) (rl ρ y) = some b := by
  unfold eqV0 at h
  split at h <;> simp only [Option.some.injEq, reduceCtorEq] at h <;> subst h <;> simp_all [eqV0]
  · rename_i b _; cases b <;> simp [rl, eqV0, *]
  · rename_i b _ _ _; cases b <;> simp [rl, eqV0, *]
  · rename_i b _; cases b <;> simp [rl, eqV0, *]
theorem eqV_rl {t : TypeId} {x y : Value} {b : Bool} (h : eqV P t x y = some b) (ρ : Nat → Nat) : eqV P t (rl ρ x) (rl ρ y) = some b := by
  rcases eqV_or h with ⟨a, c, rfl, rfl, hq⟩ | h
  · simp only [rl_agg]
    refine eqA_of fun ρ' w => ?_
    have := hq (fun i => ρ' (ρ i)) w
    rw [← rl_comp ρ' ρ (.agg a), ← rl_comp ρ' ρ (.agg c), rl_agg ρ a, rl_agg ρ c] at this
    exact this
  · exact eqV_of0 (eqV_rl0 h ρ)
end
end Go.Tb
end
