/-
  A part of the proof (my own): of the texts that the claim's last text rests on: parts Core, Ops, Pure.
-/
import Derived.Calls
import Derived.Tactics
import Derived.Deep.Quiet
import Derived.Scope
import Derived.Below
import Derived.KernelRfl
import Derived.Laws.Sem
import Derived.Laws.Entries
import Derived.Laws.Rows
import Derived.Deep.MidRow
set_option linter.unusedSimpArgs false
set_option linter.unusedVariables false
section
namespace Go.Tb
open Go
mutual
def rl (ρ : Nat → Nat) : Value → Value
  | .pointer (some a) => .pointer (some { a with block := ρ a.block })
  | .slice (some a) n c => .slice (some { a with block := ρ a.block }) n c
  | .map (some r) => .map (some (ρ r))
  | .chan (some r) => .chan (some (ρ r))
  | .func fn first captured => .func fn (rlA ρ first) (rlA ρ captured)
  | .iface t v => .iface t (rl ρ v)
  | .agg cs => .agg (rlA ρ cs)
  | .tuple vs => .tuple (rlA ρ vs)
  | v => v
def rlA (ρ : Nat → Nat) : Array Value → Array Value
  | ⟨l⟩ => ⟨rlL ρ l⟩
def rlL (ρ : Nat → Nat) : List Value → List Value
  | [] => []
  | v :: vs => rl ρ v :: rlL ρ vs
end
theorem rlL_map (ρ : Nat → Nat) (l : List Value) : rlL ρ l = l.map (rl ρ) := by
  induction l with
  | nil => rfl
  | cons v vs ih => simp [rlL, ih]
theorem rlA_map (ρ : Nat → Nat) (l : Array Value) : rlA ρ l = l.map (rl ρ) := by
  cases l with | mk l => simp [rlA, rlL_map]
@[simp] theorem rl_agg (ρ : Nat → Nat) (l : Array Value) : rl ρ (.agg l) = .agg (l.map (rl ρ)) := by simp [rl, rlA_map]
@[simp] theorem rl_tuple (ρ : Nat → Nat) (l : Array Value) : rl ρ (.tuple l) = .tuple (l.map (rl ρ)) := by simp [rl, rlA_map]
@[simp] theorem rl_func (ρ : Nat → Nat) (fn : Fn) (f c : Array Value) : rl ρ (.func fn f c) = .func fn (f.map (rl ρ)) (c.map (rl ρ)) := by simp [rl, rlA_map]
@[simp] theorem rl_int (ρ : Nat → Nat) (k : IntKind) (n : Int) : rl ρ (.int k n) = .int k n := by simp [rl]
@[simp] theorem rl_bool (ρ : Nat → Nat) (b : Bool) : rl ρ (.bool b) = .bool b := by simp [rl]
@[simp] theorem rl_string (ρ : Nat → Nat) (b : ByteArray) : rl ρ (.string b) = .string b := by simp [rl]
@[simp] theorem rl_ptr (ρ : Nat → Nat) (a : Addr) : rl ρ (.pointer (some a)) = .pointer (some { a with block := ρ a.block }) := by simp [rl]
@[simp] theorem rl_ptr0 (ρ : Nat → Nat) : rl ρ (.pointer none) = .pointer none := by simp [rl]
@[simp] theorem rl_slice (ρ : Nat → Nat) (a : Addr) (n c : Nat) : rl ρ (.slice (some a) n c) = .slice (some { a with block := ρ a.block }) n c := by simp [rl]
@[simp] theorem rl_slice0 (ρ : Nat → Nat) (n c : Nat) : rl ρ (.slice none n c) = .slice none n c := by simp [rl]
@[simp] theorem rl_map (ρ : Nat → Nat) (r : Nat) : rl ρ (.map (some r)) = .map (some (ρ r)) := by simp [rl]
@[simp] theorem rl_map0 (ρ : Nat → Nat) : rl ρ (.map none) = .map none := by simp [rl]
@[simp] theorem rl_iface (ρ : Nat → Nat) (t : TypeId) (v : Value) : rl ρ (.iface t v) = .iface t (rl ρ v) := by simp [rl]
@[simp] theorem rl_nilIface (ρ : Nat → Nat) : rl ρ .nilIface = .nilIface := by simp [rl]
@[simp] theorem rl_nilFunc (ρ : Nat → Nat) : rl ρ .nilFunc = .nilFunc := by simp [rl]
def WF (n : Nat) (v : Value) : Prop := ∀ ρ ρ' : Nat → Nat, (∀ i, i < n → ρ i = ρ' i) → rl ρ v = rl ρ' v
theorem WF.mono {n m : Nat} {v : Value} (h : WF n v) (hm : n ≤ m) : WF m v := fun ρ ρ' e => h ρ ρ' fun i hi => e i (by omega)
def kon : Value → Bool
  | .bool _ | .int _ _ | .string _ | .pointer none | .slice none _ _ | .map none | .chan none | .nilIface | .nilFunc | .float _ _ | .complex _ _ _ => true
  | .tuple vs => vs.isEmpty
  | .func (.func _) f c => f.isEmpty && c.isEmpty
  | .iface _ (.string _) => true
  | .iface _ (.int _ _) => true
  | .agg cs => cs.toList.all fun | .bool _ | .int _ _ | .string _ | .pointer none | .slice none _ _ | .map none | .nilIface | .nilFunc => true | _ => false
  | _ => false
theorem kon_rl {v : Value} (h : kon v = true) (ρ : Nat → Nat) : rl ρ v = v := by
  unfold kon at h
  split at h <;> try simp [rl]
  · rename_i vs; simp at h; subst h; rfl
  · rename_i f c; simp at h; obtain ⟨rfl, rfl⟩ := h; exact ⟨rfl, rfl⟩
  · rename_i cs
    have : cs.toList.map (rl ρ) = cs.toList := by
      rw [List.all_eq_true] at h
      conv => rhs; rw [← List.map_id cs.toList]
      refine List.map_congr_left fun v hv => ?_
      have := h v hv
      split at this <;> simp_all [rl]
    rw [rlA_map]
    apply Array.toList_inj.1
    simpa using this
  · simp at h
theorem kon_WF {v : Value} (h : kon v = true) (n : Nat) : WF n v := fun ρ ρ' _ => by rw [kon_rl h, kon_rl h]
inductive AO where
  | any
  | cells (c : List Value) (T : TypeId)
  | ro (b : Nat) (c : List Value)
  | obj (o : Obj)
def AO.wr : AO → Bool
  | .cells _ _ | .obj _ => true
  | _ => false
structure Sim (ng : Nat) (ρ : Nat → Nat) (L : List AO) (w : World) : Prop where
  ngl : ng ≤ L.length
  glob : ∀ g, g < ng → ρ g = g
  inj : ∀ (i j : Nat) (o : AO), L[i]? = some o → o.wr = true → j < L.length → ρ i = ρ j → i = j
  lt : ∀ i, i < L.length → ρ i < w.heap.size
  cells : ∀ (i : Nat) (c : List Value) (T : TypeId), L[i]? = some (.cells c T) → w.heap[ρ i]? = some (.cells (c.map (rl ρ)).toArray T (0, 0)) ∧ ∀ v ∈ c, WF L.length v
  ro : ∀ (i b : Nat) (c : List Value), L[i]? = some (.ro b c) → (∀ j v, c[j]? = some v → w.cell? ⟨ρ i, b + j, none⟩ = some (rl ρ v)) ∧ ∀ v ∈ c, WF L.length v
  obj : ∀ (i : Nat) (o : Obj), L[i]? = some (.obj o) → w.heap[ρ i]? = some o
structure Ext (ρ : Nat → Nat) (L : List AO) (w : World) (ρ' : Nat → Nat) (L' : List AO) (w' : World) : Prop where
  os : w'.os = w.os
  tape : w'.tape = w.tape
  output : w'.output = w.output
  size : w.heap.size ≤ w'.heap.size
  len : L.length ≤ L'.length
  agree : ∀ i, i < L.length → ρ' i = ρ i
  new : ∀ (i : Nat) (o : AO), L.length ≤ i → L'[i]? = some o → o.wr = true → w.heap.size ≤ ρ' i
  keep : ∀ j, j < w.heap.size → (∀ (i : Nat) (o : AO), L[i]? = some o → o.wr = true → ρ i ≠ j) → w'.heap[j]? = w.heap[j]?
  stay : ∀ (i : Nat) (o : AO), L[i]? = some o → o.wr = false → L'[i]? = some o
theorem Ext.refl (ρ : Nat → Nat) (L : List AO) (w : World) : Ext ρ L w ρ L w :=
  ⟨rfl, rfl, rfl, Nat.le_refl _, Nat.le_refl _, fun _ _ => rfl, fun i o h h' _ => by have := (List.getElem?_eq_some_iff.1 h').1; omega, fun _ _ _ => rfl, fun _ _ h _ => h⟩
theorem Ext.trans {ρ ρ1 ρ2 : Nat → Nat} {L L1 L2 : List AO} {w w1 w2 : World} (h : Ext ρ L w ρ1 L1 w1) (k : Ext ρ1 L1 w1 ρ2 L2 w2) : Ext ρ L w ρ2 L2 w2 where
  os := k.os.trans h.os
  tape := k.tape.trans h.tape
  output := k.output.trans h.output
  size := Nat.le_trans h.size k.size
  len := Nat.le_trans h.len k.len
  agree i hi := (k.agree i (Nat.lt_of_lt_of_le hi h.len)).trans (h.agree i hi)
  new i o h1 h2 h3 := by
    by_cases hi : i < L1.length
    · rw [k.agree i hi]
      have hl' : L1[i]? = some L1[i] := List.getElem?_eq_getElem hi
      cases hc : (L1[i]).wr with
      | true => exact h.new i _ h1 hl' hc
      | false =>
        have := k.stay i _ hl' hc
        rw [h2] at this; simp only [Option.some.injEq] at this
        rw [this] at h3; rw [h3] at hc; cases hc
    · exact Nat.le_trans h.size (k.new i o (by omega) h2 h3)
  keep j hj hn := by
    rw [k.keep j (Nat.lt_of_lt_of_le hj h.size) ?_]
    · exact h.keep j hj hn
    · intro i o ho hw
      have hi : i < L1.length := (List.getElem?_eq_some_iff.1 ho).1
      by_cases hl : i < L.length
      · rw [h.agree i hl]
        have hl' : L[i]? = some L[i] := List.getElem?_eq_getElem hl
        cases hc : (L[i]).wr with
        | true => exact hn i _ hl' hc
        | false =>
          have := h.stay i _ hl' hc
          rw [ho] at this
          simp only [Option.some.injEq] at this
          rw [this] at hw; rw [hw] at hc; cases hc
      · have := h.new i o (by omega) ho hw
        omega
  stay i o ho hw := k.stay i o (h.stay i o ho hw) hw
abbrev Fr := List (Nat × Value)
def Fr.get : Fr → Nat → Option Value
  | [], _ => none
  | (s, v) :: r, t => if s = t then some v else Fr.get r t
def Fr.keep : List Nat → Fr → Fr
  | [], _ => []
  | t :: ts, fr => match fr.get t with
    | some v => (t, v) :: Fr.keep ts fr
    | none => Fr.keep ts fr
def Fr.put (fr : Fr) (d : Option Tmp) (v : Value) : Fr := match d with
  | some t => (t, v) :: fr
  | none => fr
theorem Fr.keep_get {ts : List Nat} {fr : Fr} {t : Nat} {v : Value} (h : (Fr.keep ts fr).get t = some v) : fr.get t = some v := by
  induction ts with
  | nil => simp [Fr.keep, Fr.get] at h
  | cons s ts ih =>
    simp only [Fr.keep] at h
    split at h
    · rename_i u hu
      simp only [Fr.get] at h
      split at h
      · rename_i e; subst e; rw [hu, h]
      · exact ih h
    · exact ih h
structure FRel (N : Nat) (D : List Deferred) (ρ : Nat → Nat) (n : Nat) (fr : Fr) (a : Act) : Prop where
  size : a.tmps.size = N
  defers : a.defers = D
  tmps : ∀ t v, fr.get t = some v → a.tmps[t]? = some (rl ρ v) ∧ WF n v
theorem FRel.keep {N : Nat} {D : List Deferred} {ρ : Nat → Nat} {n : Nat} {fr : Fr} {a : Act} (h : FRel N D ρ n fr a) (ts : List Nat) : FRel N D ρ n (Fr.keep ts fr) a :=
  ⟨h.size, h.defers, fun t v hv => h.tmps t v (Fr.keep_get hv)⟩
theorem FRel.ext {N : Nat} {D : List Deferred} {ρ ρ' : Nat → Nat} {n n' : Nat} {fr : Fr} {a : Act} (h : FRel N D ρ n fr a) (hn : n ≤ n') (ha : ∀ i, i < n → ρ' i = ρ i) : FRel N D ρ' n' fr a :=
  ⟨h.size, h.defers, fun t v hv => by
    obtain ⟨h1, h2⟩ := h.tmps t v hv
    exact ⟨by rw [h1, h2 ρ ρ' fun i hi => (ha i hi).symm], h2.mono hn⟩⟩
theorem FRel.put {N : Nat} {D : List Deferred} {ρ : Nat → Nat} {n : Nat} {fr : Fr} {a : Act} (h : FRel N D ρ n fr a) {d : Option Tmp} (hd : ∀ t, d = some t → t < N) {v : Value} (hv : WF n v) :
    FRel N D ρ n (fr.put d v) (a.put d (rl ρ v)) := by
  cases d with
  | none => exact h
  | some t =>
    have ht := hd t rfl
    refine ⟨by simp [Act.put, h.size], by simpa [Act.put] using h.defers, fun s u hs => ?_⟩
    simp only [Fr.put, Fr.get] at hs
    split at hs
    · rename_i e; subst e
      simp only [Option.some.injEq] at hs; subst hs
      refine ⟨?_, hv⟩
      simp only [Act.put]
      rw [Array.getElem?_setIfInBounds_self_of_lt (by rw [h.size]; exact ht)]
    · rename_i e
      obtain ⟨h1, h2⟩ := h.tmps s u hs
      refine ⟨?_, h2⟩
      simp only [Act.put]
      rw [Array.getElem?_setIfInBounds_ne e]; exact h1
def evO (ng : Nat) (fr : Fr) : Operand → Option Value
  | .tmp t => fr.get t
  | .const v => if kon v then some v else none
  | .global g => if g < ng then some (.pointer (some ⟨g, 0, none⟩)) else none
  | .func f => some (.func (.func f) #[] #[])
theorem evO_sound {ng N : Nat} {D : List Deferred} {ρ : Nat → Nat} {L : List AO} {w : World} {fr : Fr} {a : Act} (hs : Sim ng ρ L w) (hf : FRel N D ρ L.length fr a) {x : Operand} {v : Value} (h : evO ng fr x = some v) :
    a.eval x = rl ρ v ∧ WF L.length v := by
  cases x with
  | tmp t =>
    obtain ⟨h1, h2⟩ := hf.tmps t v h
    exact ⟨by simp [Act.eval, h1], h2⟩
  | const c =>
    simp only [evO] at h
    split at h
    · rename_i hk
      simp only [Option.some.injEq] at h; subst h
      exact ⟨by rw [kon_rl hk]; rfl, kon_WF hk _⟩
    · cases h
  | global g =>
    simp only [evO] at h
    split at h
    · rename_i hg
      simp only [Option.some.injEq] at h; subst h
      refine ⟨by simp [Act.eval, hs.glob g hg], fun ρ ρ' e => by simp [e g (Nat.lt_of_lt_of_le hg hs.ngl)]⟩
    · cases h
  | func f =>
    simp only [evO, Option.some.injEq] at h; subst h
    exact ⟨by simp [Act.eval], fun _ _ _ => by simp⟩
def bnd {α β : Type} (o : Option α) (K : α → Option β) : Option β := o.bind K
def evs (ng : Nat) (fr : Fr) : List Operand → Option (List Value)
  | [] => some []
  | x :: xs => (evO ng fr x).bind fun v => (evs ng fr xs).map fun vs => v :: vs
theorem evs_sound {ng N : Nat} {D : List Deferred} {ρ : Nat → Nat} {L : List AO} {w : World} {fr : Fr} {a : Act} (hs : Sim ng ρ L w) (hf : FRel N D ρ L.length fr a) : ∀ {xs : List Operand} {vs : List Value}, evs ng fr xs = some vs →
    xs.map a.eval = vs.map (rl ρ) ∧ ∀ v ∈ vs, WF L.length v
  | [], vs, h => by simp [evs] at h; subst h; simp
  | x :: xs, vs, h => by
    simp only [evs] at h
    cases hx : evO ng fr x with
    | none => simp [hx] at h
    | some v =>
      cases hxs : evs ng fr xs with
      | none => simp [hx, hxs] at h
      | some us =>
        simp [hx, hxs] at h; subst h
        obtain ⟨h1, h2⟩ := evO_sound hs hf hx
        obtain ⟨h3, h4⟩ := evs_sound hs hf hxs
        refine ⟨by simp [h1, h3], fun v hv => ?_⟩
        cases hv with
        | head => exact h2
        | tail _ hv => exact h4 _ hv
end Go.Tb
end
section
namespace Go.Tb
open Go
def tInt (P : Program) (t : TypeId) : Option IntKind := match P.underlying t with
  | some (.int k) => some k
  | _ => none
def tStr (P : Program) (t : TypeId) : Bool := match P.underlying t with
  | some .string => true
  | _ => false
def tSz (P : Program) (t : TypeId) : Option (Bool × Nat) := match P.underlying t, P.info? t with
  | some (.struct _), some i | some (.array _ _), some i => some (true, i.size)
  | some _, some i => some (false, i.size)
  | _, _ => none
def tFld (P : Program) (t : TypeId) (f : Nat) : Option (Nat × Bool × Nat) := match P.underlying t with
  | some (.struct fs) => match fs[f]? with
    | some x => match tSz P x.type with
      | some (b, s) => if s = 0 then none else some (x.offset, b, s)
      | none => none
    | none => none
  | _ => none
def tElem (P : Program) (t : TypeId) : Option (Option Nat × TypeId × Bool × Nat) := match P.underlying t with
  | some (.array n e) => (tSz P e).map fun (b, s) => (some n, e, b, s)
  | some (.slice e) => (tSz P e).map fun (b, s) => (none, e, b, s)
  | _ => none
def tZero (P : Program) (t : TypeId) : Option (List Value) := match P.info? t with
  | some i => match i.zero with
    | some z => if z.cells.toList.all kon && z.cells.size == i.size then some z.cells.toList else none
    | none => none
  | none => none
section
variable {P : Program}
theorem run_sizeOf {t : TypeId} {b : Bool} {s : Nat} (h : tSz P t = some (b, s)) (w : World) : (sizeOf t).run P w = .ok s w := by
  unfold tSz at h
  split at h <;> simp_all [sizeOf, typeInfo]
theorem run_isAgg {t : TypeId} {b : Bool} {s : Nat} (h : tSz P t = some (b, s)) (w : World) : (isAgg t).run P w = .ok b w := by
  unfold tSz at h
  split at h <;> try (simp at h)
  · rename_i h1 h2; simp [isAgg, underlying, h1, h.1.symm]
  · rename_i h1 h2; simp [isAgg, underlying, h1, h.1.symm]
  · rename_i d i hn1 hn2 h1 h2
    simp only [isAgg, Sem.run_bind, run_underlying h1 w, Result.andThen_ok]
    cases d <;> simp_all
def band (k : IntKind) (a b : Int) : Int := k.wrap (BitVec.ofInt k.bits a &&& BitVec.ofInt k.bits b).toNat
def bor (k : IntKind) (a b : Int) : Int := k.wrap (BitVec.ofInt k.bits a ||| BitVec.ofInt k.bits b).toNat
def bxor (k : IntKind) (a b : Int) : Int := k.wrap (BitVec.ofInt k.bits a ^^^ BitVec.ofInt k.bits b).toNat
def bandn (k : IntKind) (a b : Int) : Int := k.wrap (BitVec.ofInt k.bits a &&& ~~~ BitVec.ofInt k.bits b).toNat
def bnot (k : IntKind) (a : Int) : Int := bxor k (if k.signed then -1 else k.max) a
def bshl (k : IntKind) (a b : Int) : Int := k.wrap (a * 2 ^ (min b.toNat k.bits))
def bshr (k : IntKind) (a b : Int) : Int := a.fdiv (2 ^ (min b.toNat k.bits))
def binI (op : BinOp) (k : IntKind) (a b : Int) : Option Value := match op with
  | .add => some (.int k (k.wrap (a + b)))
  | .sub => some (.int k (k.wrap (a - b)))
  | .mul => some (.int k (k.wrap (a * b)))
  | .and => some (.int k (band k a b))
  | .or => some (.int k (bor k a b))
  | .xor => some (.int k (bxor k a b))
  | .andNot => some (.int k (bandn k a b))
  | .quo => if b = 0 then none else some (.int k (k.wrap (a.tdiv b)))
  | .rem => if b = 0 then none else some (.int k (a.tmod b))
  | .eql => some (.bool (decide (a = b)))
  | .neq => some (.bool (!decide (a = b)))
  | .lss => some (.bool (decide (a < b)))
  | .leq => some (.bool (decide (a ≤ b)))
  | .gtr => some (.bool (decide (b < a)))
  | .geq => some (.bool (decide (b ≤ a)))
  | _ => none
def binSh (op : BinOp) (k : IntKind) (a b : Int) : Option Value := match op with
  | .shl => if b < 0 then none else some (.int k (bshl k a b))
  | .shr => if b < 0 then none else some (.int k (bshr k a b))
  | _ => none
def binS (op : BinOp) (a b : ByteArray) : Option Value := match op with
  | .eql => some (.bool (a.toList == b.toList))
  | .neq => some (.bool (!(a.toList == b.toList)))
  | .lss => some (.bool (Op.bytesLess a.toList b.toList))
  | .add => if a.size + b.size ≤ 9223372036854775807 then some (.string (a ++ b)) else none
  | _ => none
def eqV (P : Program) (t : TypeId) (x y : Value) : Option Bool := match P.underlying t, x, y with
  | some .bool, .bool a, .bool b => some (a == b)
  | some (.pointer _), .pointer none, .pointer b => some b.isNone
  | some (.pointer _), .pointer (some _), .pointer none => some false
  | some (.slice _), .slice none _ _, .slice b _ _ => some b.isNone
  | some (.slice _), .slice (some _) _ _, .slice none _ _ => some false
  | some (.map _ _), .map none, .map b => some b.isNone
  | some (.map _ _), .map (some _), .map none => some false
  | some (.interface _), .nilIface, .iface _ _ => some false
  | some (.interface _), .iface _ _, .nilIface => some false
  | _, _, _ => none
def binV (P : Program) (op : BinOp) (t : TypeId) (x y : Value) : Option Value := match x, y with
  | .int k a, .int k' b => match op with
    | .shl | .shr => binSh op k a b
    | _ => if k = k' then binI op k a b else none
  | .string a, .string b => binS op a b
  | x, y => match op with
    | .eql => (eqV P t x y).map .bool
    | .neq => (eqV P t x y).map fun b => .bool !b
    | _ => none
theorem run_binI {op : BinOp} {t : TypeId} {k : IntKind} {a b : Int} {v : Value} (hop : op ≠ .shl ∧ op ≠ .shr) (h : binI op k a b = some v) (w : World) : (binOp op t (.int k a) (.int k b)).run P w = .ok v w := by
  have e : ∀ x y : Int, (x == y) = decide (x = y) := fun x y => by by_cases h : x = y <;> simp [h]
  have e' : ∀ x y : Int, (x != y) = !decide (x = y) := fun x y => by by_cases h : x = y <;> simp [h]
  cases op <;> simp only [binI, Option.some.injEq] at h <;> first
    | (subst h; simp [binOp, Op.intArith, Op.intBits, Op.intCmp, band, bor, bxor, bandn, e, e']; done)
    | (split at h
       · cases h
       · rename_i hb; simp only [Option.some.injEq] at h; subst h; simp [binOp, Op.intDiv, hb])
    | (exact absurd rfl hop.1)
    | (exact absurd rfl hop.2)
    | cases h
theorem run_binSh {op : BinOp} {t : TypeId} {k k' : IntKind} {a b : Int} {v : Value} (h : binSh op k a b = some v) (w : World) : (binOp op t (.int k a) (.int k' b)).run P w = .ok v w := by
  cases op <;> simp only [binSh] at h <;> first
    | (split at h
       · cases h
       · rename_i hb; simp only [Option.some.injEq] at h; subst h; simp [binOp, Op.shift, hb, bshl, bshr])
    | cases h
theorem run_binS {op : BinOp} {t : TypeId} {a b : ByteArray} {v : Value} (h : binS op a b = some v) (w : World) : (binOp op t (.string a) (.string b)).run P w = .ok v w := by
  cases op <;> simp only [binS, Option.some.injEq] at h <;> first
    | (subst h; simp [binOp, Op.stringOp]; done)
    | (split at h
       · rename_i hb; simp only [Option.some.injEq] at h; subst h
         have : ¬ (((a.size + b.size : Nat) : Int) > IntKind.i64.max) := by simp [IntKind.max, IntKind.signed, IntKind.bits]; omega
         simp only [binOp, Op.stringOp]
         rw [if_neg this]; simp
       · cases h)
    | cases h
theorem run_eqVIn (d : Nat) {t : TypeId} {x y : Value} {b : Bool} (h : eqV P t x y = some b) (w : World) : (Op.equalIn (d + 1) t x y).run P w = .ok b w := by
  unfold eqV at h
  rw [Op.equalIn, Sem.run_bind]
  split at h <;> simp only [Option.some.injEq, reduceCtorEq] at h <;> subst h <;> rename_i hu <;> simp only [run_underlying hu, Result.andThen_ok, Sem.run_pure]
theorem run_eqV {t : TypeId} {x y : Value} {b : Bool} (h : eqV P t x y = some b) (w : World) : (Op.equal t x y).run P w = .ok b w := run_eqVIn 9999 h w
theorem eqV_rl {t : TypeId} {x y : Value} {b : Bool} (h : eqV P t x y = some b) (ρ : Nat → Nat) : eqV P t (rl ρ x) (rl ρ y) = some b := by
  unfold eqV at h
  split at h <;> simp only [Option.some.injEq, reduceCtorEq] at h <;> subst h <;> simp_all [eqV]
  · rename_i b _; cases b <;> simp [rl, eqV, *]
  · rename_i b _ _ _; cases b <;> simp [rl, eqV, *]
  · rename_i b _; cases b <;> simp [rl, eqV, *]
end
end Go.Tb
end
section
namespace Go.Tb
open Go
def unV (op : UnOp) (x : Value) : Option Value := match op, x with
  | .neg, .int k n => some (.int k (k.wrap (0 - n)))
  | .xor, .int k n => some (.int k (bnot k n))
  | .not, .bool b => some (.bool !b)
  | _, _ => none
def convV (P : Program) (src dst : TypeId) (x : Value) : Option Value := match x with
  | .int _ n => match tInt P dst with
    | some k => if (P.underlying src).isSome then some (.int k (k.wrap n)) else none
    | none => none
  | .string s => if tStr P dst && (P.underlying src).isSome then some (.string s) else none
  | _ => none
def ifaceV (P : Program) (t : TypeId) (x : Value) : Option Value := match P.underlying t with
  | some (.interface _) => none
  | some _ => some (.iface t x)
  | none => none
def fldAV (P : Program) (t : TypeId) (f : Nat) (x : Value) : Option Value := match x with
  | .pointer (some ⟨b, o, none⟩) => match tFld P t f with
    | some (off, _, _) => some (.pointer (some ⟨b, o + off, none⟩))
    | none => none
  | _ => none
def partV (agg : Bool) (s : Nat) (cs : List Value) (off : Nat) : Option Value :=
  if agg then some (.agg ((cs.drop off).take s).toArray) else cs[off]?
def fldV (P : Program) (t : TypeId) (f : Nat) (x : Value) : Option Value := match x with
  | .agg cs => match tFld P t f with
    | some (off, b, s) => partV b s cs.toList off
    | none => none
  | _ => none
def place (b o : Nat) (i : Int) (n s : Nat) : Option Value :=
  if 0 ≤ i ∧ i < (n : Int) then some (.pointer (some ⟨b, o + i.toNat * s, none⟩)) else none
def idxAV (P : Program) (t : TypeId) (x i : Value) : Option Value := match i with
  | .int _ j => match tElem P t, x with
    | some (some n, _, _, s), .pointer (some ⟨b, o, none⟩) => place b o j n s
    | some (none, _, _, s), .slice (some ⟨b, o, none⟩) n _ => place b o j n s
    | _, _ => none
  | _ => none
def byteV (s : ByteArray) (i : Int) : Option Value :=
  if 0 ≤ i then (s[i.toNat]?).map fun b => .int .u8 b.toNat else none
def idxV (P : Program) (t : TypeId) (x i : Value) : Option Value := match i with
  | .int _ j => match x with
    | .agg cs => match tElem P t with
      | some (some n, _, b, s) => if 0 ≤ j ∧ j < (n : Int) then partV b s cs.toList (j.toNat * s) else none
      | _ => none
    | .string s => if tStr P t then byteV s j else none
    | _ => none
  | _ => none
def bdV (x : Option (Option Value)) (d y : Nat) : Option Nat := match x with
  | none => some d
  | some (some (.int _ i)) => if 0 ≤ i ∧ i ≤ (y : Int) then some i.toNat else none
  | _ => none
def sliceV (P : Program) (t : TypeId) (x : Value) (lo hi : Option (Option Value)) : Option Value := match x with
  | .string s => if tStr P t then (bdV hi s.size s.size).bind fun h => (bdV lo 0 h).map fun l => .string (s.extract l h) else none
  | .slice (some ⟨b, o, none⟩) n c => match tElem P t with
    | some (none, _, _, s) => (bdV hi n c).bind fun h => (bdV lo 0 h).map fun l => .slice (some (if c = l then ⟨b, o, none⟩ else ⟨b, o + l * s, none⟩)) (h - l) (c - l)
    | _ => none
  | .slice none n c => match tElem P t with
    | some (none, _, _, s) => (bdV hi n c).bind fun h => (bdV lo 0 h).map fun l => .slice none (h - l) (c - l)
    | _ => none
  | .pointer (some ⟨b, o, none⟩) => match tElem P t with
    | some (some n, _, _, s) => (bdV hi n n).bind fun h => (bdV lo 0 h).map fun l => .slice (some (if n = l then ⟨b, o, none⟩ else ⟨b, o + l * s, none⟩)) (h - l) (n - l)
    | _ => none
  | _ => none
def extrV (x : Value) (i : Nat) : Option Value := match x with
  | .tuple vs => vs[i]?
  | _ => none
def lenV (P : Program) (t : TypeId) (x : Value) : Option Value := match P.underlying t, x with
  | some .string, .string s => some (.int .i64 s.size)
  | some (.array n _), _ => some (.int .i64 n)
  | some (.slice _), .slice _ n _ => some (.int .i64 n)
  | some (.map _ _), .map none => some (.int .i64 0)
  | _, _ => none
def capV (P : Program) (t : TypeId) (x : Value) : Option Value := match P.underlying t, x with
  | some (.slice _), .slice _ _ c => some (.int .i64 c)
  | _, _ => none
def nilV (x : Value) : Option Value := match x with
  | .pointer (some a) => some (.pointer (some a))
  | .iface t v => some (.iface t v)
  | .func (.func f) c d => some (.func (.func f) c d)
  | _ => none
def builtinV (P : Program) (ng : Nat) (fr : Fr) : Builtin → List Operand → List TypeId → Option Value
  | .len, [x], [t] => (evO ng fr x).bind (lenV P t)
  | .cap, [x], [t] => (evO ng fr x).bind (capV P t)
  | _, _, _ => none
def pureV (P : Program) (ng : Nat) (fr : Fr) : Op → Option Value
  | .move x | .assign x => evO ng fr x
  | .pick c a b => match evO ng fr c with
    | some (.bool true) => evO ng fr a
    | some (.bool false) => evO ng fr b
    | _ => none
  | .nilCheck x => (evO ng fr x).bind nilV
  | .binOp op t x y _ => (evO ng fr x).bind fun a => (evO ng fr y).bind fun b => binV P op t a b
  | .unOp op _ x => (evO ng fr x).bind (unV op)
  | .convert s d x => (evO ng fr x).bind (convV P s d)
  | .makeInterface t x => (evO ng fr x).bind (ifaceV P t)
  | .makeFunc fn first captured => (evs ng fr first.toList).bind fun f => (evs ng fr captured.toList).map fun c => .func fn f.toArray c.toArray
  | .fieldAddr t x f => (evO ng fr x).bind (fldAV P t f)
  | .field t x f => (evO ng fr x).bind (fldV P t f)
  | .indexAddr t x i => (evO ng fr x).bind fun a => (evO ng fr i).bind fun b => idxAV P t a b
  | .index t x i => (evO ng fr x).bind fun a => (evO ng fr i).bind fun b => idxV P t a b
  | .slice t x lo hi none => (evO ng fr x).bind fun a => sliceV P t a (lo.map (evO ng fr)) (hi.map (evO ng fr))
  | .extract x i => (evO ng fr x).bind fun a => extrV a i
  | .call { callee := .builtin b, args, argTypes } => builtinV P ng fr b args.toList argTypes.toList
  | _ => none
section
variable {P : Program} {ng N : Nat} {D : List Deferred} {ρ : Nat → Nat} {L : List AO} {w : World} {fr : Fr} {a : Act}
theorem WF_ptr {n : Nat} {b o o' : Nat} (h : WF n (.pointer (some ⟨b, o, none⟩))) : WF n (.pointer (some ⟨b, o', none⟩)) := fun ρ ρ' e => by
  have := h ρ ρ' e; simp at this; simp [this]
theorem WF_slice_ptr {n : Nat} {b o o' l c : Nat} (h : WF n (.slice (some ⟨b, o, none⟩) l c)) : WF n (.pointer (some ⟨b, o', none⟩)) := fun ρ ρ' e => by
  have := h ρ ρ' e; simp at this; simp [this]
theorem WF_slice {n : Nat} {b o o' l c l' c' : Nat} (h : WF n (.slice (some ⟨b, o, none⟩) l c)) : WF n (.slice (some ⟨b, o', none⟩) l' c') := fun ρ ρ' e => by
  have := h ρ ρ' e; simp at this; simp [this]
theorem WF_ptr_slice {n : Nat} {b o o' l' c' : Nat} (h : WF n (.pointer (some ⟨b, o, none⟩))) : WF n (.slice (some ⟨b, o', none⟩) l' c') := fun ρ ρ' e => by
  have := h ρ ρ' e; simp at this; simp [this]
theorem WF_agg {n : Nat} {cs : Array Value} : WF n (.agg cs) ↔ ∀ v ∈ cs.toList, WF n v := by
  constructor
  · intro h v hv ρ ρ' e
    have := h ρ ρ' e
    simp only [rl_agg, Value.agg.injEq] at this
    have h2 : cs.toList.map (rl ρ) = cs.toList.map (rl ρ') := by simpa using congrArg Array.toList this
    exact List.map_inj_left.1 h2 v hv
  · intro h ρ ρ' e
    simp only [rl_agg, Value.agg.injEq]
    apply Array.toList_inj.1
    simp only [Array.toList_map]
    exact List.map_congr_left fun v hv => h v hv ρ ρ' e
theorem WF_tuple {n : Nat} {cs : Array Value} : WF n (.tuple cs) ↔ ∀ v ∈ cs.toList, WF n v := by
  constructor
  · intro h v hv ρ ρ' e
    have := h ρ ρ' e
    simp only [rl_tuple, Value.tuple.injEq] at this
    have h2 : cs.toList.map (rl ρ) = cs.toList.map (rl ρ') := by simpa using congrArg Array.toList this
    exact List.map_inj_left.1 h2 v hv
  · intro h ρ ρ' e
    simp only [rl_tuple, Value.tuple.injEq]
    apply Array.toList_inj.1
    simp only [Array.toList_map]
    exact List.map_congr_left fun v hv => h v hv ρ ρ' e
theorem WF_iface {n : Nat} {t : TypeId} {v : Value} (h : WF n v) : WF n (.iface t v) := fun ρ ρ' e => by simp [h ρ ρ' e]
theorem WF_func {n : Nat} {fn : Fn} {f c : List Value} (h : ∀ v ∈ f, WF n v) (h' : ∀ v ∈ c, WF n v) : WF n (.func fn f.toArray c.toArray) := fun ρ ρ' e => by
  simp only [rl_func, Value.func.injEq, true_and]
  constructor <;> (apply Array.toList_inj.1; simp only [Array.toList_map])
  · exact List.map_congr_left fun v hv => h v hv ρ ρ' e
  · exact List.map_congr_left fun v hv => h' v hv ρ ρ' e
theorem WF_int {n : Nat} {k : IntKind} {i : Int} : WF n (.int k i) := fun _ _ _ => by simp
theorem WF_bool {n : Nat} {b : Bool} : WF n (.bool b) := fun _ _ _ => by simp
theorem WF_str {n : Nat} {b : ByteArray} : WF n (.string b) := fun _ _ _ => by simp
theorem binI_plain {op : BinOp} {k : IntKind} {a b : Int} {v : Value} (h : binI op k a b = some v) : (∃ k n, v = .int k n) ∨ ∃ b, v = .bool b := by
  cases op <;> simp only [binI, Option.some.injEq] at h <;> first
    | (subst h; first | exact .inl ⟨_, _, rfl⟩ | exact .inr ⟨_, rfl⟩)
    | (split at h
       · cases h
       · simp only [Option.some.injEq] at h; subst h; exact .inl ⟨_, _, rfl⟩)
    | cases h
theorem binSh_plain {op : BinOp} {k : IntKind} {a b : Int} {v : Value} (h : binSh op k a b = some v) : (∃ k n, v = .int k n) := by
  cases op <;> simp only [binSh] at h <;> first
    | (split at h
       · cases h
       · simp only [Option.some.injEq] at h; subst h; exact ⟨_, _, rfl⟩)
    | cases h
theorem binS_plain {op : BinOp} {a b : ByteArray} {v : Value} (h : binS op a b = some v) : (∃ s, v = .string s) ∨ ∃ b, v = .bool b := by
  cases op <;> simp only [binS, Option.some.injEq] at h <;> first
    | (subst h; exact .inr ⟨_, rfl⟩)
    | (split at h
       · simp only [Option.some.injEq] at h; subst h; exact .inl ⟨_, rfl⟩
       · cases h)
    | cases h
theorem binV_else {op : BinOp} {t : TypeId} {x y v : Value} (h : binV P op t x y = some v) :
    (∃ k k' a b, x = .int k a ∧ y = .int k' b) ∨ (∃ a b, x = .string a ∧ y = .string b) ∨
    (∃ b, eqV P t x y = some b ∧ ((op = .eql ∧ v = .bool b) ∨ (op = .neq ∧ v = .bool !b))) := by
  unfold binV at h
  split at h
  · exact .inl ⟨_, _, _, _, rfl, rfl⟩
  · exact .inr (.inl ⟨_, _, rfl, rfl⟩)
  · refine .inr (.inr ?_)
    split at h
    · cases he : eqV P t x y with
      | none => simp [he] at h
      | some b => simp [he] at h; exact ⟨b, rfl, .inl ⟨rfl, h.symm⟩⟩
    · cases he : eqV P t x y with
      | none => simp [he] at h
      | some b => simp [he] at h; exact ⟨b, rfl, .inr ⟨rfl, h.symm⟩⟩
    · cases h
theorem eqV_shape {t : TypeId} {x y : Value} {b : Bool} (h : eqV P t x y = some b) :
    (∀ op : BinOp, op = .eql ∨ op = .neq → ∀ w, (binOp op t x y).run P w = (do let b ← Op.equal t x y; pure (Value.bool (if op = .eql then b else !b)) : Sem Value).run P w) ∧
    (∀ op a b w, (eqGuard op t a b x y).run P w = .ok () w) := by
  unfold eqV at h
  constructor
  · intro op hop w
    split at h <;> first | (simp only [reduceCtorEq] at h; done) | (rcases hop with rfl | rfl <;> simp [binOp])
  · intro op a' b' w
    split at h <;> first | (simp only [reduceCtorEq] at h; done) | (cases op <;> simp [eqGuard])
theorem eqGuard_int {op : BinOp} {t : TypeId} {x y : Operand} {k k' : IntKind} {a b : Int} (w : World) : (eqGuard op t x y (.int k a) (.int k' b)).run P w = .ok () w := by
  cases op <;> simp [eqGuard]
theorem eqGuard_str {op : BinOp} {t : TypeId} {x y : Operand} {a b : ByteArray} (w : World) : (eqGuard op t x y (.string a) (.string b)).run P w = .ok () w := by
  cases op <;> simp [eqGuard]
theorem binV_sound {op : BinOp} {t : TypeId} {x y v : Value} {p q : Operand} (h : binV P op t x y = some v) (w : World) :
    (do eqGuard op t p q (rl ρ x) (rl ρ y); binOp op t (rl ρ x) (rl ρ y) : Sem Value).run P w = .ok (rl ρ v) w ∧ ∀ n, WF n v := by
  rcases binV_else h with ⟨k, k', a, b, rfl, rfl⟩ | ⟨a, b, rfl, rfl⟩ | ⟨b, he, hv⟩
  · have hv : (∃ k n, v = .int k n) ∨ ∃ b, v = .bool b := by
      simp only [binV] at h
      split at h
      · exact .inl (binSh_plain h)
      · exact .inl (binSh_plain h)
      · split at h
        · exact binI_plain h
        · cases h
    refine ⟨?_, fun n => by rcases hv with ⟨_, _, rfl⟩ | ⟨_, rfl⟩; exact WF_int; exact WF_bool⟩
    have e : rl ρ v = v := by rcases hv with ⟨_, _, rfl⟩ | ⟨_, rfl⟩ <;> simp
    rw [e, rl_int, rl_int, Sem.run_bind, eqGuard_int, Result.andThen_ok]
    simp only [binV] at h
    split at h
    · exact run_binSh h w
    · exact run_binSh h w
    · rename_i h1 h2
      split at h
      · rename_i hk; subst hk
        exact run_binI ⟨h1, h2⟩ h w
      · cases h
  · have hv := binS_plain (v := v) (by simpa only [binV] using h)
    refine ⟨?_, fun n => by rcases hv with ⟨_, rfl⟩ | ⟨_, rfl⟩; exact WF_str; exact WF_bool⟩
    have e : rl ρ v = v := by rcases hv with ⟨_, rfl⟩ | ⟨_, rfl⟩ <;> simp
    rw [e, rl_string, rl_string, Sem.run_bind, eqGuard_str, Result.andThen_ok]
    exact run_binS (by simpa only [binV] using h) w
  · have he' := eqV_rl he ρ
    obtain ⟨h1, h2⟩ := eqV_shape he'
    rcases hv with ⟨rfl, rfl⟩ | ⟨rfl, rfl⟩
    · refine ⟨?_, fun n => WF_bool⟩
      rw [Sem.run_bind, h2, Result.andThen_ok, h1 _ (.inl rfl), Sem.run_bind, run_eqV he', Result.andThen_ok]
      simp
    · refine ⟨?_, fun n => WF_bool⟩
      rw [Sem.run_bind, h2, Result.andThen_ok, h1 _ (.inr rfl), Sem.run_bind, run_eqV he', Result.andThen_ok]
      simp
theorem run_tInt {t : TypeId} {k : IntKind} (h : tInt P t = some k) : P.underlying t = some (.int k) := by
  unfold tInt at h; split at h <;> simp_all
theorem run_tStr {t : TypeId} (h : tStr P t = true) : P.underlying t = some .string := by
  unfold tStr at h; split at h <;> simp_all
theorem unV_sound {op : UnOp} {x v : Value} (h : unV op x = some v) (w : World) : (Op.unary op (rl ρ x)).run P w = .ok (rl ρ v) w ∧ ∀ n, WF n v := by
  unfold unV at h
  split at h <;> simp only [Option.some.injEq, reduceCtorEq] at h <;> subst h
  · exact ⟨by simp [Op.unary, Op.intArith], fun _ => WF_int⟩
  · exact ⟨by simp [Op.unary, Op.intBits, bnot, bxor], fun _ => WF_int⟩
  · exact ⟨by simp [Op.unary], fun _ => WF_bool⟩
theorem convV_sound {s d : TypeId} {x v : Value} (h : convV P s d x = some v) (w : World) : (convert s d (rl ρ x)).run P w = .ok (rl ρ v) w ∧ ∀ n, WF n v := by
  unfold convV at h
  split at h
  · split at h
    · rename_i hk
      split at h
      · rename_i hs
        simp only [Option.some.injEq] at h; subst h
        obtain ⟨ds, hs⟩ := Option.isSome_iff_exists.1 hs
        refine ⟨?_, fun _ => WF_int⟩
        simp [convert, Conv.intToInt, run_underlying hs, run_underlying (run_tInt hk)]
      · cases h
    · cases h
  · split at h
    · rename_i hc
      simp only [Option.some.injEq] at h; subst h
      simp only [Bool.and_eq_true] at hc
      obtain ⟨ds, hs⟩ := Option.isSome_iff_exists.1 hc.2
      refine ⟨?_, fun _ => WF_str⟩
      simp [convert, run_underlying hs, run_underlying (run_tStr hc.1)]
    · cases h
  · cases h
theorem ifaceV_sound {t : TypeId} {x v : Value} (h : ifaceV P t x = some v) (w : World) : (Instr.makeInterface t (rl ρ x)).run P w = .ok (rl ρ v) w ∧ ∀ n, WF n x → WF n v := by
  unfold ifaceV at h
  split at h
  · cases h
  · rename_i d hd hu
    simp only [Option.some.injEq] at h; subst h
    refine ⟨?_, fun n hn => WF_iface hn⟩
    simp only [Instr.makeInterface, Sem.run_bind, run_underlying hu, Result.andThen_ok]
    cases d <;> simp_all
  · cases h
theorem tFld_spec {t : TypeId} {f off s : Nat} {b : Bool} (h : tFld P t f = some (off, b, s)) : ∃ fs x, P.underlying t = some (.struct fs) ∧ fs[f]? = some x ∧ x.offset = off ∧ tSz P x.type = some (b, s) ∧ s ≠ 0 := by
  unfold tFld at h
  split at h
  · rename_i fs hu
    split at h
    · rename_i x hx
      split at h
      · rename_i b' s' hz
        split at h
        · cases h
        · rename_i hne
          simp only [Option.some.injEq, Prod.mk.injEq] at h
          obtain ⟨rfl, rfl, rfl⟩ := h
          exact ⟨fs, x, hu, hx, rfl, hz, hne⟩
      · cases h
    · cases h
  · cases h
theorem fldAV_sound {t : TypeId} {f : Nat} {x v : Value} (h : fldAV P t f x = some v) (w : World) : (Instr.fieldAt t (rl ρ x) f).run P w = .ok (rl ρ v) w ∧ ∀ n, WF n x → WF n v := by
  unfold fldAV at h
  split at h
  · split at h
    · rename_i b o off ag s hf
      simp only [Option.some.injEq] at h; subst h
      obtain ⟨fs, x, hu, hx, rfl, hz, hne⟩ := tFld_spec hf
      refine ⟨?_, fun n hn => WF_ptr hn⟩
      simp [Instr.fieldAt, run_underlying hu, hx, Instr.sureAddr, fieldPlace, run_sizeOf hz, hne, Addr.add_mid]
    · cases h
  · cases h
theorem rlA_drop_take (cs : List Value) (o s : Nat) : ((cs.drop o).take s).map (rl ρ) = ((cs.map (rl ρ)).drop o).take s := by simp
theorem run_part {t : TypeId} {b : Bool} {s : Nat} (hz : tSz P t = some (b, s)) {cs : List Value} {off : Nat} {v : Value} (h : partV b s cs off = some v) (w : World) :
    (part t (cs.map (rl ρ)).toArray off).run P w = .ok (rl ρ v) w ∧ ∀ n, (∀ u ∈ cs, WF n u) → WF n v := by
  unfold partV at h
  split at h
  · rename_i hb; subst hb
    simp only [Option.some.injEq] at h; subst h
    refine ⟨?_, fun n hn => WF_agg.2 fun v hv => hn v (List.mem_of_mem_drop (List.mem_of_mem_take hv))⟩
    simp only [part, Sem.run_bind, run_isAgg hz, Result.andThen_ok, if_true, run_sizeOf hz, Sem.run_pure]
    congr 1
    rw [rl_agg]
    congr 1
    apply Array.toList_inj.1
    simp [Array.toList_extract, List.extract_eq_take_drop]
  · rename_i hb
    have hb : b = false := by simpa using hb
    subst hb
    refine ⟨?_, fun n hn => hn v (List.mem_of_getElem? h)⟩
    simp [part, run_isAgg hz, h]
theorem fldV_sound {t : TypeId} {f : Nat} {x v : Value} (h : fldV P t f x = some v) (w : World) : (Instr.field t (rl ρ x) f).run P w = .ok (rl ρ v) w ∧ ∀ n, WF n x → WF n v := by
  unfold fldV at h
  split at h
  · split at h
    · rename_i cs _ off b s hf
      obtain ⟨fs, x, hu, hx, rfl, hz, hne⟩ := tFld_spec hf
      obtain ⟨h1, h2⟩ := run_part (ρ := ρ) hz h w
      refine ⟨?_, fun n hn => h2 n (WF_agg.1 hn)⟩
      have e : (List.map (rl ρ) cs.toList).toArray = cs.map (rl ρ) := by apply Array.toList_inj.1; simp
      rw [e] at h1
      simp [Instr.field, run_underlying hu, hx, asAgg, h1]
    · cases h
  · cases h
theorem tElem_spec {t e : TypeId} {n : Option Nat} {b : Bool} {s : Nat} (h : tElem P t = some (n, e, b, s)) :
    tSz P e = some (b, s) ∧ ((∃ m, n = some m ∧ P.underlying t = some (.array m e)) ∨ (n = none ∧ P.underlying t = some (.slice e))) := by
  unfold tElem at h
  split at h
  · rename_i m e' hu
    cases hz : tSz P e' with
    | none => simp [hz] at h
    | some p =>
      obtain ⟨b', s'⟩ := p
      simp [hz] at h
      obtain ⟨rfl, rfl, rfl, rfl⟩ := h
      exact ⟨hz, .inl ⟨_, rfl, hu⟩⟩
  · rename_i e' hu
    cases hz : tSz P e' with
    | none => simp [hz] at h
    | some p =>
      obtain ⟨b', s'⟩ := p
      simp [hz] at h
      obtain ⟨rfl, rfl, rfl, rfl⟩ := h
      exact ⟨hz, .inr ⟨rfl, hu⟩⟩
  · cases h
theorem place_spec {b o n s : Nat} {i : Int} {v : Value} (h : place b o i n s = some v) : 0 ≤ i ∧ i < (n : Int) ∧ v = .pointer (some ⟨b, o + i.toNat * s, none⟩) := by
  unfold place at h
  split at h
  · rename_i hc; simp only [Option.some.injEq] at h; exact ⟨hc.1, hc.2, h.symm⟩
  · cases h
theorem idxAV_sound {t : TypeId} {x i v : Value} (h : idxAV P t x i = some v) (w : World) : (Instr.indexAt t (rl ρ x) (rl ρ i)).run P w = .ok (rl ρ v) w ∧ ∀ n, WF n x → WF n v := by
  unfold idxAV at h
  split at h
  · split at h
    · rename_i hf
      obtain ⟨h0, h1, rfl⟩ := place_spec h
      obtain ⟨hz, hu | hu⟩ := tElem_spec hf
      · obtain ⟨m, hm, hu⟩ := hu
        simp only [Option.some.injEq] at hm; subst hm
        refine ⟨?_, fun n hn => WF_ptr hn⟩
        simp [Instr.indexAt, asIntOf, run_underlying hu, Instr.sureAddr, run_sizeOf hz, h0, h1, Addr.add_mid]
      · cases hu.1
    · rename_i hf
      obtain ⟨h0, h1, rfl⟩ := place_spec h
      obtain ⟨hz, hu | hu⟩ := tElem_spec hf
      · obtain ⟨m, hm, hu⟩ := hu; cases hm
      · refine ⟨?_, fun n hn => WF_slice_ptr hn⟩
        simp [Instr.indexAt, asIntOf, run_underlying hu.2, Instr.sureAddr, run_sizeOf hz, h0, h1, Addr.add_mid]
    · cases h
  · cases h
theorem byteV_spec {s : ByteArray} {i : Int} {v : Value} (h : byteV s i = some v) : 0 ≤ i ∧ ∃ b, s[i.toNat]? = some b ∧ v = .int .u8 b.toNat := by
  unfold byteV at h
  split at h
  · rename_i h0
    cases hb : s[i.toNat]? with
    | none => simp [hb] at h
    | some b => simp [hb] at h; exact ⟨h0, b, rfl, h.symm⟩
  · cases h
theorem idxV_sound {t : TypeId} {x i v : Value} (h : idxV P t x i = some v) (w : World) : (Instr.index t (rl ρ x) (rl ρ i)).run P w = .ok (rl ρ v) w ∧ ∀ n, WF n x → WF n v := by
  unfold idxV at h
  split at h
  · split at h
    · split at h
      · rename_i cs _ _ _ _ _ hf
        split at h
        · rename_i hc
          obtain ⟨hz, hu | hu⟩ := tElem_spec hf
          · obtain ⟨m, hm, hu⟩ := hu
            simp only [Option.some.injEq] at hm; subst hm
            obtain ⟨h1, h2⟩ := run_part (ρ := ρ) hz h w
            refine ⟨?_, fun n hn => h2 n (WF_agg.1 hn)⟩
            have e : (List.map (rl ρ) cs.toList).toArray = cs.map (rl ρ) := by apply Array.toList_inj.1; simp
            rw [e] at h1
            simp [Instr.index, asIntOf, run_underlying hu, run_sizeOf hz, hc.1, hc.2, h1]
          · cases hu.1
        · cases h
      · cases h
    · split at h
      · rename_i hs
        obtain ⟨h0, b, hb, rfl⟩ := byteV_spec h
        refine ⟨?_, fun n _ => WF_int⟩
        simp [Instr.index, asIntOf, run_underlying (run_tStr hs), h0, hb]
      · cases h
    · cases h
  · cases h
theorem run_sliceBound {x : Value} {y : Nat} {i : Int} {k : IntKind} (hx : x = .int k i) (h0 : 0 ≤ i) (h1 : i ≤ (y : Int)) (c : BoundsCode) (w : World) : (Instr.sliceBound x y c).run P w = .ok i.toNat w := by
  subst hx
  simp [Instr.sliceBound, asIntOf, h0, h1]
theorem bdV_spec {x : Option (Option Value)} {d y m : Nat} (h : bdV x d y = some m) : (x = none ∧ m = d) ∨ ∃ k i, x = some (some (.int k i)) ∧ 0 ≤ i ∧ i ≤ (y : Int) ∧ m = i.toNat := by
  unfold bdV at h
  split at h
  · simp only [Option.some.injEq] at h; exact .inl ⟨rfl, h.symm⟩
  · split at h
    · rename_i hc; simp only [Option.some.injEq] at h; exact .inr ⟨_, _, rfl, hc.1, hc.2, h.symm⟩
    · cases h
  · cases h
theorem run_sliceBounds {b : Bool} {n c h l : Nat} {lo hi : Option (Option Value)} (hh : bdV hi n c = some h) (hl : bdV lo 0 h = some l) (w : World) :
    (Instr.sliceBounds b n c (lo.map fun v => rl ρ (v.getD undef)) (hi.map fun v => rl ρ (v.getD undef)) none).run P w = .ok (l, h, c) w := by
  rcases bdV_spec hh with ⟨rfl, rfl⟩ | ⟨k, i, rfl, h0, h1, rfl⟩ <;> rcases bdV_spec hl with ⟨rfl, rfl⟩ | ⟨k', i', rfl, h0', h1', rfl⟩ <;>
    simp only [Instr.sliceBounds, Option.map_none, Option.map_some, Option.getD_some, rl_int, Sem.run_bind, Sem.run_pure, Result.andThen_ok]
  · rw [run_sliceBound rfl h0' h1']; rfl
  · rw [run_sliceBound rfl h0 h1]; rfl
  · rw [run_sliceBound rfl h0 h1]; simp only [Result.andThen_ok]; rw [run_sliceBound rfl h0' h1']; rfl
theorem sliceV_sound {t : TypeId} {x v : Value} {lo hi : Option (Option Value)} (h : sliceV P t x lo hi = some v) (w : World) :
    (Instr.sliceAt t (rl ρ x) (lo.map fun v => rl ρ (v.getD undef)) (hi.map fun v => rl ρ (v.getD undef)) none).run P w = .ok (rl ρ v) w ∧ ∀ n, WF n x → WF n v := by
  unfold sliceV at h
  split at h
  · split at h
    · rename_i s hs
      cases hh : bdV hi s.size s.size with
      | none => simp [hh] at h
      | some m =>
        cases hl : bdV lo 0 m with
        | none => simp [hh, hl] at h
        | some l =>
          simp [hh, hl] at h; subst h
          refine ⟨?_, fun n _ => WF_str⟩
          simp [Instr.sliceAt, Instr.slice, run_underlying (run_tStr hs), run_sliceBounds hh hl]
    · cases h
  · split at h
    · rename_i b o n c _ _ _ s hf
      obtain ⟨hz, hu | hu⟩ := tElem_spec hf
      · obtain ⟨m, hm, hu⟩ := hu; cases hm
      · cases hh : bdV hi n c with
        | none => simp [hh] at h
        | some m =>
          cases hl : bdV lo 0 m with
          | none => simp [hh, hl] at h
          | some l =>
            simp [hh, hl] at h; subst h
            refine ⟨?_, fun n hn => by split <;> exact WF_slice hn⟩
            simp [Instr.sliceAt, Instr.slice, run_underlying hu.2, run_sliceBounds hh hl, run_sizeOf hz]
            split <;> simp [Addr.add_mid]
    · cases h
  · split at h
    · rename_i n c _ _ _ s hf
      obtain ⟨hz, hu | hu⟩ := tElem_spec hf
      · obtain ⟨m, hm, hu⟩ := hu; cases hm
      · cases hh : bdV hi n c with
        | none => simp [hh] at h
        | some m =>
          cases hl : bdV lo 0 m with
          | none => simp [hh, hl] at h
          | some l =>
            simp [hh, hl] at h; subst h
            refine ⟨?_, fun n hn => fun _ _ _ => by simp⟩
            simp [Instr.sliceAt, Instr.slice, run_underlying hu.2, run_sliceBounds hh hl, run_sizeOf hz]
    · cases h
  · split at h
    · rename_i b o n _ _ s hf
      obtain ⟨hz, hu | hu⟩ := tElem_spec hf
      · obtain ⟨m, hm, hu⟩ := hu
        simp only [Option.some.injEq] at hm; subst hm
        cases hh : bdV hi n n with
        | none => simp [hh] at h
        | some m =>
          cases hl : bdV lo 0 m with
          | none => simp [hh, hl] at h
          | some l =>
            simp [hh, hl] at h; subst h
            refine ⟨?_, fun n hn => by split <;> exact WF_ptr_slice hn⟩
            simp [Instr.sliceAt, run_underlying hu, Instr.sureAddr, run_sliceBounds hh hl, run_sizeOf hz]
            split <;> simp [Addr.add_mid]
      · cases hu.1
    · cases h
  · cases h
theorem extrV_sound {x v : Value} {i : Nat} (h : extrV x i = some v) (w : World) : (Instr.extract (rl ρ x) i).run P w = .ok (rl ρ v) w ∧ ∀ n, WF n x → WF n v := by
  unfold extrV at h
  split at h
  · rename_i vs
    refine ⟨by simp [Instr.extract, h], fun n hn => ?_⟩
    refine WF_tuple.1 hn _ ?_
    rw [← Array.getElem?_toList] at h
    exact List.mem_of_getElem? h
  · cases h
theorem lenV_sound {t ty : TypeId} {x v : Value} (h : lenV P t x = some v) (w : World) : (Builtin.len_ #[t] ty #[rl ρ x]).run P w = .ok (rl ρ v) w ∧ ∀ n, WF n v := by
  unfold lenV at h
  split at h <;> simp only [Option.some.injEq, reduceCtorEq] at h <;> subst h <;> rename_i hu <;> refine ⟨?_, fun _ => WF_int⟩
  · simp [Builtin.len_, run_underlying hu, goInt]
  · simp [Builtin.len_, run_underlying hu, goInt]
  · rename_i b _ _; cases b <;> simp [Builtin.len_, run_underlying hu, goInt]
  · simp [Builtin.len_, run_underlying hu, goInt]
theorem capV_sound {t ty : TypeId} {x v : Value} (h : capV P t x = some v) (w : World) : (Builtin.cap_ #[t] ty #[rl ρ x]).run P w = .ok (rl ρ v) w ∧ ∀ n, WF n v := by
  unfold capV at h
  split at h <;> simp only [Option.some.injEq, reduceCtorEq] at h <;> subst h <;> rename_i hu <;> refine ⟨?_, fun _ => WF_int⟩
  · rename_i b _ _; cases b <;> simp [Builtin.cap_, run_underlying hu, goInt]
theorem evO_eval (hs : Sim ng ρ L w) (hf : FRel N D ρ L.length fr a) (x : Operand) {v : Value} (h : evO ng fr x = some v) : a.eval x = rl ρ v := (evO_sound hs hf h).1
theorem opt_evO {x : Option Operand} (hs : Sim ng ρ L w) (hf : FRel N D ρ L.length fr a) (h : ∀ v, x.map (evO ng fr) = some v → v ≠ none) : x.map a.eval = (x.map (evO ng fr)).map fun v => rl ρ (v.getD undef) := by
  cases x with
  | none => rfl
  | some o =>
    cases hv : evO ng fr o with
    | none => exact absurd (h none (by simp [hv])) (by simp)
    | some v => simp [hv, evO_eval hs hf o hv]
theorem bdV_ne {x : Option (Option Value)} {d y m : Nat} (h : bdV x d y = some m) : ∀ v, x = some v → v ≠ none := by
  intro v hv hn
  subst hv; subst hn
  simp [bdV] at h
theorem sliceV_ne {t : TypeId} {x v : Value} {lo hi : Option (Option Value)} (h : sliceV P t x lo hi = some v) : (∀ v, lo = some v → v ≠ none) ∧ (∀ v, hi = some v → v ≠ none) := by
  have key : ∀ n c : Nat, ∀ (f : Nat → Nat → Value), ((bdV hi n c).bind fun h => (bdV lo 0 h).map fun l => f h l) = some v → (∀ v, lo = some v → v ≠ none) ∧ (∀ v, hi = some v → v ≠ none) := by
    intro n c f hk
    cases hh : bdV hi n c with
    | none => simp [hh] at hk
    | some m =>
      cases hl : bdV lo 0 m with
      | none => simp [hh, hl] at hk
      | some l => exact ⟨bdV_ne hl, bdV_ne hh⟩
  unfold sliceV at h
  split at h
  · split at h
    · exact key _ _ _ h
    · cases h
  · split at h
    · exact key _ _ _ h
    · cases h
  · split at h
    · exact key _ _ _ h
    · cases h
  · split at h
    · exact key _ _ _ h
    · cases h
  · cases h
theorem pureV_sound {o : Oper} {v : Value} (h : pureV P ng fr o.op = some v) (hs : Sim ng ρ L w) (hf : FRel N D ρ L.length fr a) :
    (∀ w, (execOp a.eval o).run P w = .ok (.value (rl ρ v)) w) ∧ WF L.length v := by
  obtain ⟨dst, op, type, pos, after, guard⟩ := o
  have ev : ∀ {x : Operand} {v : Value}, evO ng fr x = some v → a.eval x = rl ρ v ∧ WF L.length v := fun h => evO_sound hs hf h
  simp only at h
  unfold pureV at h
  split at h
  · obtain ⟨e, hw⟩ := ev h; exact ⟨fun w => by simp [execOp, e], hw⟩
  · obtain ⟨e, hw⟩ := ev h; exact ⟨fun w => by simp [execOp, e], hw⟩
  · split at h
    · rename_i hc; obtain ⟨e, hw⟩ := ev h; obtain ⟨ec, _⟩ := ev hc
      exact ⟨fun w => by simp [execOp, e, ec, asBool], hw⟩
    · rename_i hc; obtain ⟨e, hw⟩ := ev h; obtain ⟨ec, _⟩ := ev hc
      exact ⟨fun w => by simp [execOp, e, ec, asBool], hw⟩
    · cases h
  · rename_i x
    cases hx : evO ng fr x with
    | none => simp [hx] at h
    | some u =>
      simp only [hx, Option.bind_some] at h
      obtain ⟨e, hw⟩ := ev hx
      unfold nilV at h
      split at h <;> simp only [Option.some.injEq, reduceCtorEq] at h <;> subst h <;> exact ⟨fun w => by simp [execOp, e], hw⟩
  · rename_i op t x y _
    cases hx : evO ng fr x with
    | none => simp [hx] at h
    | some u =>
      cases hy : evO ng fr y with
      | none => simp [hx, hy] at h
      | some u' =>
        simp only [hx, hy, Option.bind_some] at h
        obtain ⟨e, hw⟩ := ev hx
        obtain ⟨e', hw'⟩ := ev hy
        refine ⟨fun w => ?_, (binV_sound (ρ := ρ) (p := x) (q := y) h w).2 _⟩
        have := (binV_sound (ρ := ρ) (p := x) (q := y) h w).1
        simp only [execOp, e, e', Sem.run_bind, this, Result.andThen_ok, Sem.run_pure] at this ⊢
  · rename_i op _ x
    cases hx : evO ng fr x with
    | none => simp [hx] at h
    | some u =>
      simp only [hx, Option.bind_some] at h
      obtain ⟨e, hw⟩ := ev hx
      exact ⟨fun w => by simp [execOp, e, (unV_sound (P := P) (ρ := ρ) h w).1], (unV_sound (P := P) (ρ := ρ) h w).2 _⟩
  · rename_i s d x
    cases hx : evO ng fr x with
    | none => simp [hx] at h
    | some u =>
      simp only [hx, Option.bind_some] at h
      obtain ⟨e, hw⟩ := ev hx
      exact ⟨fun w => by simp [execOp, e, (convV_sound (ρ := ρ) h w).1], (convV_sound (ρ := ρ) h w).2 _⟩
  · rename_i t x
    cases hx : evO ng fr x with
    | none => simp [hx] at h
    | some u =>
      simp only [hx, Option.bind_some] at h
      obtain ⟨e, hw⟩ := ev hx
      exact ⟨fun w => by simp [execOp, e, (ifaceV_sound (ρ := ρ) h w).1], (ifaceV_sound (ρ := ρ) h w).2 _ hw⟩
  · rename_i fn f c
    cases hx : evs ng fr f.toList with
    | none => simp [hx] at h
    | some u =>
      cases hy : evs ng fr c.toList with
      | none => simp [hx, hy] at h
      | some u' =>
        simp only [hx, hy, Option.bind_some, Option.map_some, Option.some.injEq] at h
        subst h
        obtain ⟨e, hw⟩ := evs_sound hs hf hx
        obtain ⟨e', hw'⟩ := evs_sound hs hf hy
        refine ⟨fun w => ?_, WF_func hw hw'⟩
        have e1 : f.map a.eval = u.toArray.map (rl ρ) := by apply Array.toList_inj.1; simpa using e
        have e2 : c.map a.eval = u'.toArray.map (rl ρ) := by apply Array.toList_inj.1; simpa using e'
        simp [execOp, Instr.makeFunc, e1, e2]
  · rename_i t x f
    cases hx : evO ng fr x with
    | none => simp [hx] at h
    | some u =>
      simp only [hx, Option.bind_some] at h
      obtain ⟨e, hw⟩ := ev hx
      exact ⟨fun w => by simp [execOp, e, (fldAV_sound (ρ := ρ) h w).1], (fldAV_sound (ρ := ρ) h w).2 _ hw⟩
  · rename_i t x f
    cases hx : evO ng fr x with
    | none => simp [hx] at h
    | some u =>
      simp only [hx, Option.bind_some] at h
      obtain ⟨e, hw⟩ := ev hx
      exact ⟨fun w => by simp [execOp, e, (fldV_sound (ρ := ρ) h w).1], (fldV_sound (ρ := ρ) h w).2 _ hw⟩
  · rename_i t x i
    cases hx : evO ng fr x with
    | none => simp [hx] at h
    | some u =>
      cases hy : evO ng fr i with
      | none => simp [hx, hy] at h
      | some u' =>
        simp only [hx, hy, Option.bind_some] at h
        obtain ⟨e, hw⟩ := ev hx
        obtain ⟨e', hw'⟩ := ev hy
        exact ⟨fun w => by simp [execOp, e, e', (idxAV_sound (ρ := ρ) h w).1], (idxAV_sound (ρ := ρ) h w).2 _ hw⟩
  · rename_i t x i
    cases hx : evO ng fr x with
    | none => simp [hx] at h
    | some u =>
      cases hy : evO ng fr i with
      | none => simp [hx, hy] at h
      | some u' =>
        simp only [hx, hy, Option.bind_some] at h
        obtain ⟨e, hw⟩ := ev hx
        obtain ⟨e', hw'⟩ := ev hy
        exact ⟨fun w => by simp [execOp, e, e', (idxV_sound (ρ := ρ) h w).1], (idxV_sound (ρ := ρ) h w).2 _ hw⟩
  · rename_i t x lo hi
    cases hx : evO ng fr x with
    | none => simp [hx] at h
    | some u =>
      simp only [hx, Option.bind_some] at h
      obtain ⟨e, hw⟩ := ev hx
      obtain ⟨h1, h2⟩ := sliceV_ne h
      refine ⟨fun w => ?_, (sliceV_sound (ρ := ρ) h w).2 _ hw⟩
      have := (sliceV_sound (ρ := ρ) h w).1
      rw [← opt_evO hs hf h1, ← opt_evO hs hf h2] at this
      simp [execOp, e, this]
  · rename_i x i
    cases hx : evO ng fr x with
    | none => simp [hx] at h
    | some u =>
      simp only [hx, Option.bind_some] at h
      obtain ⟨e, hw⟩ := ev hx
      exact ⟨fun w => by simp [execOp, e, (extrV_sound (P := P) (ρ := ρ) h w).1], (extrV_sound (P := P) (ρ := ρ) h w).2 _ hw⟩
  · rename_i b args argTypes
    unfold builtinV at h
    split at h
    · rename_i x t ha ht
      obtain rfl : args = #[x] := Array.toList_inj.1 ha
      obtain rfl : argTypes = #[t] := Array.toList_inj.1 ht
      cases hx : evO ng fr x with
      | none => simp [hx] at h
      | some u =>
        simp only [hx, Option.bind_some] at h
        obtain ⟨e, hw⟩ := ev hx
        exact ⟨fun w => by simp [execOp, resolve, invoke, builtin, e, (lenV_sound (ρ := ρ) h w).1], (lenV_sound (ρ := ρ) (ty := 0) h w).2 _⟩
    · rename_i x t ha ht
      obtain rfl : args = #[x] := Array.toList_inj.1 ha
      obtain rfl : argTypes = #[t] := Array.toList_inj.1 ht
      cases hx : evO ng fr x with
      | none => simp [hx] at h
      | some u =>
        simp only [hx, Option.bind_some] at h
        obtain ⟨e, hw⟩ := ev hx
        exact ⟨fun w => by simp [execOp, resolve, invoke, builtin, e, (capV_sound (ρ := ρ) h w).1], (capV_sound (ρ := ρ) (ty := 0) h w).2 _⟩
    · cases h
  · cases h
end
end Go.Tb
end
