/-
  A part of the proof (my own): of the texts that the claim's last text rests on: parts Simp.
-/
import Derived.IntWalk
import Derived.Test.YtigjokkakcmmdaaGreatDoorT07
import Derived.Test.YtigjokkakcmmdaaGreatDoorT06
set_option linter.unusedSimpArgs false
set_option linter.unusedVariables false
section
namespace Go.Tb
open Go
section
variable {X : Cx}
theorem get_cons (s t : Nat) (v : Value) (fr : Fr) : Fr.get ((s, v) :: fr) t = if s = t then some v else Fr.get fr t := rfl
def keepC (t : Nat) (o : Option Value) (r : Fr) : Fr := match o with
  | some v => (t, v) :: r
  | none => r
theorem keepC_some (t : Nat) (v : Value) (r : Fr) : keepC t (some v) r = (t, v) :: r := rfl
theorem keepC_none (t : Nat) (r : Fr) : keepC t none r = r := rfl
theorem keep_cons (t : Nat) (ts : List Nat) (fr : Fr) : Fr.keep (t :: ts) fr = keepC t (fr.get t) (Fr.keep ts fr) := by
  cases h : fr.get t <;> simp [Fr.keep, keepC, h]
theorem put_some (fr : Fr) (t : Nat) (v : Value) : Fr.put fr (some t) v = (t, v) :: fr := rfl
theorem put_none (fr : Fr) (v : Value) : Fr.put fr none v = fr := rfl
theorem keep_nil (fr : Fr) : Fr.keep [] fr = [] := rfl
theorem get_nil (t : Nat) : Fr.get [] t = none := rfl
theorem ev_tmp (ng t : Nat) (fr : Fr) : evO ng fr (.tmp t) = fr.get t := rfl
theorem ev_func (ng f : Nat) (fr : Fr) : evO ng fr (.func f) = some (.func (.func f) [].toArray [].toArray) := rfl
theorem ev_int (ng : Nat) (fr : Fr) (k : IntKind) (n : Int) : evO ng fr (.const (.int k n)) = some (.int k n) := rfl
theorem ev_bool (ng : Nat) (fr : Fr) (b : Bool) : evO ng fr (.const (.bool b)) = some (.bool b) := rfl
theorem ev_str (ng : Nat) (fr : Fr) (b : ByteArray) : evO ng fr (.const (.string b)) = some (.string b) := rfl
theorem ev_nil (ng : Nat) (fr : Fr) : evO ng fr (.const (.pointer none)) = some (.pointer none) := rfl
theorem ev_nils (ng : Nat) (fr : Fr) (n c : Nat) : evO ng fr (.const (.slice none n c)) = some (.slice none n c) := rfl
theorem ev_glob {ng g : Nat} (fr : Fr) (h : g < ng) : evO ng fr (.global g) = some (.pointer (some ⟨g, 0, none⟩)) := by simp [evO, h]
theorem arr_toList {α : Type} (l : List α) : l.toArray.toList = l := rfl
theorem bind_some {α β : Type} (a : α) (f : α → Option β) : (some a).bind f = f a := rfl
theorem map_some {α β : Type} (a : α) (f : α → β) : (some a).map f = some (f a) := rfl
theorem look_lo {L : List AO} {b : Nat} (h : b < 100) : look X L b = X.pad[b]? := by simp [look, h]
theorem look_hi {L : List AO} {b : Nat} (h : 100 ≤ b) : look X L b = L[b - 100]? := by simp [look]; omega
theorem wrap_i8 {n : Int} (h : -128 ≤ n ∧ n ≤ 127) : IntKind.i8.wrap n = n := IntWalk.i8_in n h
theorem wrap_i64 {n : Int} (h : -9223372036854775808 ≤ n ∧ n ≤ 9223372036854775807) : IntKind.i64.wrap n = n := IntWalk.i64_in n h
theorem wrap_u8 {n : Int} (h : 0 ≤ n ∧ n ≤ 255) : IntKind.u8.wrap n = n := IntWalk.u8_in n h
theorem wrap_u64 {n : Int} (h : 0 ≤ n ∧ n ≤ 18446744073709551615) : IntKind.u64.wrap n = n := IntWalk.u64_in n h
theorem tdiv_nn {a b : Int} (h : 0 ≤ a ∧ 0 ≤ b) : a.tdiv b = a / b := Int.tdiv_eq_ediv_of_nonneg h.1
theorem tmod_nn {a b : Int} (h : 0 ≤ a) : a.tmod b = a % b := Int.tmod_eq_emod_of_nonneg h
theorem place_in {b o n s : Nat} {i : Int} (h : 0 ≤ i ∧ i < (n : Int)) : place b o i n s = some (.pointer (some ⟨b, o + i.toNat * s, none⟩)) := by simp [place, h]
def ints (k : IntKind) (n : Nat) (f : Nat → Int) : List Value := (List.range n).map fun i => .int k (f i)
theorem ints_len (k : IntKind) (n : Nat) (f : Nat → Int) : (ints k n f).length = n := by simp [ints]
theorem ints_get {k : IntKind} {n : Nat} {f : Nat → Int} {i : Nat} (h : i < n) : (ints k n f)[i]? = some (.int k (f i)) := by simp [ints, h]
def upd (f : Nat → Int) (i : Nat) (v : Int) : Nat → Int := fun j => if j = i then v else f j
theorem ints_set {k : IntKind} {n : Nat} {f : Nat → Int} {i : Nat} {v : Int} : (ints k n f).set i (.int k v) = ints k n (upd f i v) := by
  apply List.ext_getElem?
  intro j
  rw [List.getElem?_set]
  by_cases h : i = j
  · subst h
    by_cases hi : i < n
    · simp [ints, hi, upd]
    · simp [ints, hi]
  · by_cases hj : j < n
    · rw [if_neg h, ints_get hj, ints_get hj, upd, if_neg (fun e => h e.symm)]
    · rw [if_neg h]; simp [ints, hj]
theorem ints_one (k : IntKind) (n : Nat) (f : Nat → Int) : (ints k n f).all one = true := by simp [ints, one]
theorem ints_pl (k : IntKind) (n : Nat) (f : Nat → Int) : ∀ v ∈ ints k n f, Pl v := by
  intro v hv; simp only [ints, List.mem_map] at hv; obtain ⟨_, _, rfl⟩ := hv; exact Pl.int
theorem sub_ints (k : IntKind) (n : Nat) (f : Nat → Int) : sub (ints k n f) 0 n = some (ints k n f) := by
  simp only [sub, ints_len, Nat.zero_add, Nat.le_refl, if_true, List.drop_zero]
  rw [List.take_of_length_le (by rw [ints_len]; exact Nat.le_refl _)]
def fnO (v : Option Value) : Option (FuncId × List Value × List Value) := v.bind fnOf
def ap1 {α : Type} (f : Value → Option α) (x : Option Value) : Option α := x.bind f
def ap2 {α : Type} (f : Value → Value → Option α) (x y : Option Value) : Option α := x.bind fun a => y.bind fun b => f a b
theorem ap1_some {α : Type} (f : Value → Option α) (v : Value) : ap1 f (some v) = f v := rfl
theorem ap2_some {α : Type} (f : Value → Value → Option α) (v u : Value) : ap2 f (some v) (some u) = f v u := rfl
def keepL (L : List AO) (v : Option Value) : Option (Value × List AO) := v.map fun v => (v, L)
theorem keepL_some (L : List AO) (v : Value) : keepL L (some v) = some (v, L) := rfl
def storeL (L : Option (List AO)) : Option (Value × List AO) := L.map fun L' => (.tuple #[], L')
theorem storeL_some (L : List AO) : storeL (some L) = some (.tuple #[], L) := rfl
def allocL (L : List AO) (t : TypeId) (c : Option (List Value)) : Option (Value × List AO) := c.map fun cs => (.pointer (some ⟨100 + L.length, 0, none⟩), L ++ [.cells cs t])
theorem allocL_some (L : List AO) (t : TypeId) (c : List Value) : allocL L t (some c) = some (.pointer (some ⟨100 + L.length, 0, none⟩), L ++ [.cells c t]) := rfl
def boxL (L : List AO) (t : TypeId) (v : Option Value) : Option (Value × List AO) := v.map fun v => (.pointer (some ⟨100 + L.length, 0, none⟩), L ++ [.cells (cellsL v) t])
theorem boxL_some (L : List AO) (t : TypeId) (v : Value) : boxL L t (some v) = some (.pointer (some ⟨100 + L.length, 0, none⟩), L ++ [.cells (cellsL v) t]) := rfl
def pickV (c a b : Option Value) : Option Value := match c with
  | some (.bool true) => a
  | some (.bool false) => b
  | _ => none
theorem pickV_t (a b : Option Value) : pickV (some (.bool true)) a b = a := rfl
theorem pickV_f (a b : Option Value) : pickV (some (.bool false)) a b = b := rfl
def mkF (fn : Fn) (f c : Option (List Value)) : Option Value := f.bind fun f => c.map fun c => .func fn f.toArray c.toArray
def slV (P : Program) (t : TypeId) (x : Option Value) (lo hi : Option (Option Value)) : Option Value := x.bind fun a => sliceV P t a lo hi
theorem slV_some (P : Program) (t : TypeId) (v : Value) (lo hi : Option (Option Value)) : slV P t (some v) lo hi = sliceV P t v lo hi := rfl
def onP (X : Cx) (r : Option (Value × List AO)) (all rest : List Oper) (fr : Fr) (d : Option Tmp) (K : Fr → List AO → Prop) : Prop := match r with
  | some (v, L') => wpOps X all rest (fr.put d v) L' K
  | none => False
theorem onP_some (v : Value) (L' : List AO) (all rest : List Oper) (fr : Fr) (d : Option Tmp) (K : Fr → List AO → Prop) : onP X (some (v, L')) all rest fr d K = wpOps X all rest (fr.put d v) L' K := rfl
def CallO (X : Cx) (g : Option (FuncId × List Value × List Value)) (vs : Option (List Value)) (all rest : List Oper) (fr : Fr) (d : Option Tmp) (L : List AO) (K : Fr → List AO → Prop) : Prop :=
  onV g fun g => onV vs fun vs => CallM X g.1 (g.2.1 ++ vs ++ g.2.2) L fun v L' => wpOps X all rest (fr.put d v) L' K
def onGd (X : Cx) (c : Option Value) (want : Bool) (all : List Oper) (o : Oper) (rest : List Oper) (fr : Fr) (L : List AO) (K : Fr → List AO → Prop) : Prop :=
  onG c want (wpOps X all (o :: rest) fr L K) (wpOps X all rest (fr.put o.dst (.tuple #[])) L K)
theorem onGd_tt (all : List Oper) (o : Oper) (rest : List Oper) (fr : Fr) (L : List AO) (K) : onGd X (some (.bool true)) true all o rest fr L K = wpOps X all (o :: rest) fr L K := by simp [onGd, onG]
theorem onGd_tf (all : List Oper) (o : Oper) (rest : List Oper) (fr : Fr) (L : List AO) (K) : onGd X (some (.bool true)) false all o rest fr L K = wpOps X all rest (fr.put o.dst (.tuple #[])) L K := by simp [onGd, onG]
theorem onGd_ft (all : List Oper) (o : Oper) (rest : List Oper) (fr : Fr) (L : List AO) (K) : onGd X (some (.bool false)) true all o rest fr L K = wpOps X all rest (fr.put o.dst (.tuple #[])) L K := by simp [onGd, onG]
theorem onGd_ff (all : List Oper) (o : Oper) (rest : List Oper) (fr : Fr) (L : List AO) (K) : onGd X (some (.bool false)) false all o rest fr L K = wpOps X all (o :: rest) fr L K := by simp [onGd, onG]
theorem ops_nil (all : List Oper) (fr : Fr) (L : List AO) (K : Fr → List AO → Prop) : wpOps X all [] fr L K = K fr L := rfl
section
variable (all : List Oper) (dst : Option Tmp) (type : TypeId) (pos : String) (after : Array Edge) (rest : List Oper) (fr : Fr) (L : List AO) (K : Fr → List AO → Prop)
theorem ops_guard (op : Op) (j : Nat) (want : Bool) : wpOps X all ({ dst, op, type, pos, after, guard := some (j, want) } :: rest) fr L K = onGd X (gd all fr j) want all { dst, op, type, pos, after, guard := none } rest fr L K := rfl
theorem ops_call (f : Operand) (args : Array Operand) (tys : Array TypeId) : wpOps X all ({ dst, op := .call { callee := .value f, args, argTypes := tys }, type, pos, after, guard := none } :: rest) fr L K =
    CallO X (fnO (evO X.ng fr f)) (evs X.ng fr args.toList) all rest fr dst L K := rfl
theorem ops_len (x : Operand) (t : TypeId) : wpOps X all ({ dst, op := .call { callee := .builtin .len, args := #[x], argTypes := #[t] }, type, pos, after, guard := none } :: rest) fr L K =
    onP X (keepL L (ap1 (lenV X.P t) (evO X.ng fr x))) all rest fr dst K := by
  simp only [wpOps, wpO, pureV, builtinV, keepL, ap1]
  cases (evO X.ng fr x).bind (lenV X.P t) <;> rfl
theorem pure_ops {op : Op} {o : Option Value} (h : wpO X fr L op (fun v L' => wpOps X all rest (fr.put dst v) L' K) = onV o fun v => wpOps X all rest (fr.put dst v) L K) :
    wpOps X all ({ dst, op, type, pos, after, guard := none } :: rest) fr L K = onP X (keepL L o) all rest fr dst K := by
  rw [show wpOps X all ({ dst, op, type, pos, after, guard := none } :: rest) fr L K = wpO X fr L op (fun v L' => wpOps X all rest (fr.put dst v) L' K) from rfl, h]
  cases o <;> rfl
theorem mem_ops {op : Op} {o : Option (Value × List AO)} (h : wpO X fr L op (fun v L' => wpOps X all rest (fr.put dst v) L' K) = onV o fun p => wpOps X all rest (fr.put dst p.1) p.2 K) :
    wpOps X all ({ dst, op, type, pos, after, guard := none } :: rest) fr L K = onP X o all rest fr dst K := by
  rw [show wpOps X all ({ dst, op, type, pos, after, guard := none } :: rest) fr L K = wpO X fr L op (fun v L' => wpOps X all rest (fr.put dst v) L' K) from rfl, h]
  cases o <;> rfl
theorem onV_map {α β : Type} (o : Option α) (f : α → β) (K : β → Prop) : onV (o.map f) K = onV o fun v => K (f v) := by cases o <;> rfl
theorem ops_load (t : TypeId) (x : Operand) : wpOps X all ({ dst, op := .load t x, type, pos, after, guard := none } :: rest) fr L K = onP X (keepL L (ap1 (rdL X L t) (evO X.ng fr x))) all rest fr dst K := pure_ops _ _ _ _ _ _ _ _ _ rfl
theorem ops_store (t : TypeId) (x y : Operand) : wpOps X all ({ dst, op := .store t x y, type, pos, after, guard := none } :: rest) fr L K = onP X (storeL (ap2 (wrL X L t) (evO X.ng fr x) (evO X.ng fr y))) all rest fr dst K := mem_ops _ _ _ _ _ _ _ _ _ (by simp only [wpO, storeL, ap2, onV_map])
theorem ops_alloc (t : TypeId) : wpOps X all ({ dst, op := .alloc t, type, pos, after, guard := none } :: rest) fr L K = onP X (allocL L t (tZero X.P t)) all rest fr dst K := mem_ops _ _ _ _ _ _ _ _ _ (by simp only [wpO, allocL, onV_map])
theorem ops_box (t : TypeId) (x : Operand) : wpOps X all ({ dst, op := .box t x, type, pos, after, guard := none } :: rest) fr L K = onP X (boxL L t (evO X.ng fr x)) all rest fr dst K := mem_ops _ _ _ _ _ _ _ _ _ (by simp only [wpO, boxL, onV_map])
theorem ops_move (x : Operand) : wpOps X all ({ dst, op := .move x, type, pos, after, guard := none } :: rest) fr L K = onP X (keepL L (evO X.ng fr x)) all rest fr dst K := pure_ops _ _ _ _ _ _ _ _ _ rfl
theorem ops_assign (x : Operand) : wpOps X all ({ dst, op := .assign x, type, pos, after, guard := none } :: rest) fr L K = onP X (keepL L (evO X.ng fr x)) all rest fr dst K := pure_ops _ _ _ _ _ _ _ _ _ rfl
theorem ops_pick (c x y : Operand) : wpOps X all ({ dst, op := .pick c x y, type, pos, after, guard := none } :: rest) fr L K = onP X (keepL L (pickV (evO X.ng fr c) (evO X.ng fr x) (evO X.ng fr y))) all rest fr dst K := pure_ops _ _ _ _ _ _ _ _ _ rfl
theorem ops_nilCheck (x : Operand) : wpOps X all ({ dst, op := .nilCheck x, type, pos, after, guard := none } :: rest) fr L K = onP X (keepL L (ap1 nilV (evO X.ng fr x))) all rest fr dst K := pure_ops _ _ _ _ _ _ _ _ _ rfl
theorem ops_bin (op : BinOp) (t : TypeId) (x y : Operand) (u : TypeId) : wpOps X all ({ dst, op := .binOp op t x y u, type, pos, after, guard := none } :: rest) fr L K = onP X (keepL L (ap2 (binV X.P op t) (evO X.ng fr x) (evO X.ng fr y))) all rest fr dst K := pure_ops _ _ _ _ _ _ _ _ _ rfl
theorem ops_un (op : UnOp) (t : TypeId) (x : Operand) : wpOps X all ({ dst, op := .unOp op t x, type, pos, after, guard := none } :: rest) fr L K = onP X (keepL L (ap1 (unV op) (evO X.ng fr x))) all rest fr dst K := pure_ops _ _ _ _ _ _ _ _ _ rfl
theorem ops_conv (s t : TypeId) (x : Operand) : wpOps X all ({ dst, op := .convert s t x, type, pos, after, guard := none } :: rest) fr L K = onP X (keepL L (ap1 (convM X.P (X.pad ++ L) s t) (evO X.ng fr x))) all rest fr dst K := pure_ops _ _ _ _ _ _ _ _ _ rfl
theorem ops_faddr (t : TypeId) (x : Operand) (f : Nat) : wpOps X all ({ dst, op := .fieldAddr t x f, type, pos, after, guard := none } :: rest) fr L K = onP X (keepL L (ap1 (fldAV X.P t f) (evO X.ng fr x))) all rest fr dst K := pure_ops _ _ _ _ _ _ _ _ _ rfl
theorem ops_iaddr (t : TypeId) (x i : Operand) : wpOps X all ({ dst, op := .indexAddr t x i, type, pos, after, guard := none } :: rest) fr L K = onP X (keepL L (ap2 (idxAV X.P t) (evO X.ng fr x) (evO X.ng fr i))) all rest fr dst K := pure_ops _ _ _ _ _ _ _ _ _ rfl
theorem ops_index (t : TypeId) (x i : Operand) : wpOps X all ({ dst, op := .index t x i, type, pos, after, guard := none } :: rest) fr L K = onP X (keepL L (ap2 (idxV X.P t) (evO X.ng fr x) (evO X.ng fr i))) all rest fr dst K := pure_ops _ _ _ _ _ _ _ _ _ rfl
theorem ops_slice (t : TypeId) (x : Operand) (lo hi : Option Operand) : wpOps X all ({ dst, op := .slice t x lo hi none, type, pos, after, guard := none } :: rest) fr L K = onP X (keepL L (slV X.P t (evO X.ng fr x) (lo.map (evO X.ng fr)) (hi.map (evO X.ng fr)))) all rest fr dst K := pure_ops _ _ _ _ _ _ _ _ _ rfl
theorem ops_extract (x : Operand) (i : Nat) : wpOps X all ({ dst, op := .extract x i, type, pos, after, guard := none } :: rest) fr L K = onP X (keepL L (ap1 (fun a => extrV a i) (evO X.ng fr x))) all rest fr dst K := pure_ops _ _ _ _ _ _ _ _ _ rfl
end
theorem call_p {f : FuncId} {vs : List Value} {v : Value} {all rest : List Oper} {fr : Fr} {d : Option Tmp} {L : List AO} {K : Fr → List AO → Prop} (h : FnP X f vs v)
    (hk : wpOps X all rest (fr.put d v) L K) : CallO X (some (f, [], [])) (some vs) all rest fr d L K := by
  show CallM X f ([] ++ vs ++ []) L _
  rw [List.nil_append, List.append_nil]
  exact h.m hk
def onBc (X : Cx) (N : Nat) (D : List Deferred) (n0 : Nat) (V : List Nat) (c : Option Value) (x y : Code) (Q : Exit → Fr → List AO → Prop) (fr : Fr) (L : List AO) : Prop := onB c (wpC X N D n0 V x Q fr L) (wpC X N D n0 V y Q fr L)
section
variable {N n0 : Nat} {D : List Deferred} {V : List Nat} {x y : Code} {Q : Exit → Fr → List AO → Prop} {fr : Fr} {L : List AO}
theorem c_cond (N D n0 V) (c : Operand) (x y Q fr L) : wpC X N D n0 V (.cond c x y) Q fr L = onBc X N D n0 V (evO X.ng fr c) x y Q fr L := rfl
theorem onBc_true (N D n0 V x y Q fr L) : onBc X N D n0 V (some (.bool true)) x y Q fr L = wpC X N D n0 V x Q fr L := onB_true _ _
theorem onBc_false (N D n0 V x y Q fr L) : onBc X N D n0 V (some (.bool false)) x y Q fr L = wpC X N D n0 V y Q fr L := onB_false _ _
theorem if_dec {p : Prop} {_ : Decidable p} (h1 : p → wpC X N D n0 V x Q fr L) (h2 : ¬ p → wpC X N D n0 V y Q fr L) : onBc X N D n0 V (some (.bool (decide p))) x y Q fr L := onB_dec h1 h2
theorem if_ndec {p : Prop} {_ : Decidable p} (h1 : ¬ p → wpC X N D n0 V x Q fr L) (h2 : p → wpC X N D n0 V y Q fr L) : onBc X N D n0 V (some (.bool (!decide p))) x y Q fr L := onB_ndec h1 h2
theorem if_bool {b : Bool} (h1 : b = true → wpC X N D n0 V x Q fr L) (h2 : b = false → wpC X N D n0 V y Q fr L) : onBc X N D n0 V (some (.bool b)) x y Q fr L := onB_intro h1 h2
theorem gd_dec {all : List Oper} {o : Oper} {rest : List Oper} {K : Fr → List AO → Prop} {p : Prop} {_ : Decidable p} {want : Bool} (h1 : p → onGd X (some (.bool true)) want all o rest fr L K) (h2 : ¬ p → onGd X (some (.bool false)) want all o rest fr L K) : onGd X (some (.bool (decide p))) want all o rest fr L K := by
  by_cases h : p
  · rw [decide_eq_true h]; exact h1 h
  · rw [decide_eq_false h]; exact h2 h
end
theorem seq_k {N n0 : Nat} {D : List Deferred} {V : List Nat} {a b : Code} {Q : Exit → Fr → List AO → Prop} {fr : Fr} {L : List AO}
    (h : ∀ K : Fr → List AO → Prop, (∀ fr L, wpC X N D n0 V b Q fr L → K fr L) → wpC X N D n0 V a (thenQ K Q) fr L) : wpC X N D n0 V (.seq a b) Q fr L := h _ fun fr L h => ⟨(fr, L), VS.refl _, h⟩
theorem seq_i (fr1 : Fr) (L1 : List AO) {N n0 : Nat} {D : List Deferred} {V : List Nat} {a b : Code} {Q : Exit → Fr → List AO → Prop} {fr : Fr} {L : List AO}
    (hb : wpC X N D n0 V b Q fr1 L1)
    (h : ∀ K : Fr → List AO → Prop, (∀ fr L, VS X n0 (fr, L) (fr1, L1) → K fr L) → wpC X N D n0 V a (thenQ K Q) fr L) : wpC X N D n0 V (.seq a b) Q fr L := h _ fun fr L hv => ⟨(fr1, L1), hv, hb⟩
theorem seq_g (g : Prop) (fr1 : Fr) (L1 : List AO) {N n0 : Nat} {D : List Deferred} {V : List Nat} {a b : Code} {Q : Exit → Fr → List AO → Prop} {fr : Fr} {L : List AO}
    (hb : g → wpC X N D n0 V b Q fr1 L1)
    (h : ∀ K : Fr → List AO → Prop, (g → ∀ fr L, VS X n0 (fr, L) (fr1, L1) → K fr L) → wpC X N D n0 V a (thenQ K Q) fr L) : wpC X N D n0 V (.seq a b) Q fr L := by
  by_cases hg : g
  · exact h _ fun _ fr L hv => ⟨(fr1, L1), hv, hb hg⟩
  · exact h _ fun hg' => absurd hg' hg
theorem seq_b (g : Prop) {p q : Prop} [Decidable p] [Decidable q] (f : Bool → Bool → Fr) (L1 : List AO) {N n0 : Nat} {D : List Deferred} {V : List Nat} {a b : Code} {Q : Exit → Fr → List AO → Prop} {fr : Fr} {L : List AO}
    (hb : g → ∀ b1 b2, (b1 = true ↔ p) → (b2 = true ↔ q) → wpC X N D n0 V b Q (f b1 b2) L1)
    (h : ∀ K : Fr → List AO → Prop, (g → ∀ fr L, VS X n0 (fr, L) (f (decide p) (decide q), L1) → K fr L) → wpC X N D n0 V a (thenQ K Q) fr L) : wpC X N D n0 V (.seq a b) Q fr L :=
  seq_g g (f (decide p) (decide q)) L1 (fun hg => hb hg (decide p) (decide q) (by simp) (by simp)) h
theorem nilV_ptr (a : Addr) : nilV (.pointer (some a)) = some (.pointer (some a)) := rfl
theorem un_neg (k : IntKind) (n : Int) : unV .neg (.int k n) = some (.int k (k.wrap (0 - n))) := rfl
theorem un_xor (k : IntKind) (n : Int) : unV .xor (.int k n) = some (.int k (bnot k n)) := rfl
theorem un_not (b : Bool) : unV .not (.bool b) = some (.bool !b) := rfl
section
variable (P : Program) (t : TypeId) (k : IntKind) (a b : Int)
theorem b_add : binV P .add t (.int k a) (.int k b) = some (.int k (k.wrap (a + b))) := by simp [binV, binI]
theorem b_sub : binV P .sub t (.int k a) (.int k b) = some (.int k (k.wrap (a - b))) := by simp [binV, binI]
theorem b_mul : binV P .mul t (.int k a) (.int k b) = some (.int k (k.wrap (a * b))) := by simp [binV, binI]
theorem b_and : binV P .and t (.int k a) (.int k b) = some (.int k (band k a b)) := by simp [binV, binI]
theorem b_or : binV P .or t (.int k a) (.int k b) = some (.int k (bor k a b)) := by simp [binV, binI]
theorem b_xor : binV P .xor t (.int k a) (.int k b) = some (.int k (bxor k a b)) := by simp [binV, binI]
theorem b_quo {b : Int} (h : b ≠ 0) : binV P .quo t (.int k a) (.int k b) = some (.int k (k.wrap (a.tdiv b))) := by simp [binV, binI, h]
theorem b_rem {b : Int} (h : b ≠ 0) : binV P .rem t (.int k a) (.int k b) = some (.int k (a.tmod b)) := by simp [binV, binI, h]
theorem b_eql : binV P .eql t (.int k a) (.int k b) = some (.bool (decide (a = b))) := by simp [binV, binI]
theorem b_neq : binV P .neq t (.int k a) (.int k b) = some (.bool (!decide (a = b))) := by simp [binV, binI]
theorem b_lss : binV P .lss t (.int k a) (.int k b) = some (.bool (decide (a < b))) := by simp [binV, binI]
theorem b_leq : binV P .leq t (.int k a) (.int k b) = some (.bool (decide (a ≤ b))) := by simp [binV, binI]
theorem b_gtr : binV P .gtr t (.int k a) (.int k b) = some (.bool (decide (b < a))) := by simp [binV, binI]
theorem b_geq : binV P .geq t (.int k a) (.int k b) = some (.bool (decide (b ≤ a))) := by simp [binV, binI]
theorem b_shl {b : Int} (k' : IntKind) (h : 0 ≤ b) : binV P .shl t (.int k a) (.int k' b) = some (.int k (bshl k a b)) := by simp [binV, binSh]; omega
theorem b_shr {b : Int} (k' : IntKind) (h : 0 ≤ b) : binV P .shr t (.int k a) (.int k' b) = some (.int k (bshr k a b)) := by simp [binV, binSh]; omega
end
section
variable (P : Program) (t : TypeId) (a b : ByteArray)
theorem s_eql : binV P .eql t (.string a) (.string b) = some (.bool (a.toList == b.toList)) := rfl
def eqU (d : Option TypeDesc) (x y : Value) : Option Bool := match d, x, y with
  | some .bool, .bool a, .bool b => some (a == b)
  | some (.pointer _), .pointer none, .pointer b => some b.isNone
  | some (.pointer _), .pointer (some _), .pointer none => some false
  | some (.slice _), .slice none _ _, .slice b _ _ => some b.isNone
  | some (.slice _), .slice (some _) _ _, .slice none _ _ => some false
  | some (.map _ _), .map none, .map b => some b.isNone
  | some (.map _ _), .map (some _), .map none => some false
  | some (.interface _), .nilIface, .iface _ _ => some false
  | some (.interface _), .iface _ _, .nilIface => some false
  | _, _, _ => none
def asB (b : Option Bool) : Option Value := b.map .bool
def asNB (b : Option Bool) : Option Value := b.map fun b => .bool !b
theorem asB_some (b : Bool) : asB (some b) = some (.bool b) := rfl
theorem asNB_some (b : Bool) : asNB (some b) = some (.bool !b) := rfl
theorem e_ptr (a b : Option Addr) : binV P .eql t (.pointer a) (.pointer b) = asB (eqU (P.underlying t) (.pointer a) (.pointer b)) := rfl
theorem n_slice (a b : Option Addr) (n c m d : Nat) : binV P .neq t (.slice a n c) (.slice b m d) = asNB (eqU (P.underlying t) (.slice a n c) (.slice b m d)) := rfl
theorem u_ptr0 (e : TypeId) (b : Option Addr) : eqU (some (.pointer e)) (.pointer none) (.pointer b) = some b.isNone := rfl
theorem u_ptr1 (e : TypeId) (a : Addr) : eqU (some (.pointer e)) (.pointer (some a)) (.pointer none) = some false := rfl
theorem u_sl0 (e : TypeId) (b : Option Addr) (n c m d : Nat) : eqU (some (.slice e)) (.slice none n c) (.slice b m d) = some b.isNone := rfl
end
def convI (k : Option IntKind) (s : Option TypeDesc) (n : Int) : Option Value := match k, s with
  | some k, some _ => some (.int k (k.wrap n))
  | _, _ => none
theorem conv_int (P : Program) (s d : TypeId) (k : IntKind) (n : Int) : convV P s d (.int k n) = convI (tInt P d) (P.underlying s) n := by
  simp only [convV, convI]
  cases tInt P d with
  | none => rfl
  | some k => cases P.underlying s <;> rfl
theorem convI_some (k : IntKind) (s : TypeDesc) (n : Int) : convI (some k) (some s) n = some (.int k (k.wrap n)) := rfl
def convS (b : Bool) (s : Option TypeDesc) (x : ByteArray) : Option Value := match b, s with
  | true, some _ => some (.string x)
  | _, _ => none
def fa (q : Option (Nat × Bool × Nat)) (b o : Nat) : Option Value := match q with
  | some (off, _, _) => some (.pointer (some ⟨b, o + off, none⟩))
  | none => none
theorem fldA (P : Program) (t : TypeId) (f b o : Nat) : fldAV P t f (.pointer (some ⟨b, o, none⟩)) = fa (tFld P t f) b o := rfl
theorem fa_some (off : Nat) (g : Bool) (s b o : Nat) : fa (some (off, g, s)) b o = some (.pointer (some ⟨b, o + off, none⟩)) := rfl
def ff (q : Option (Nat × Bool × Nat)) (cs : List Value) : Option Value := match q with
  | some (off, b, s) => partV b s cs off
  | none => none
theorem part_f (s : Nat) (cs : List Value) (off : Nat) : partV false s cs off = cs[off]? := rfl
def ia (q : Option (Option Nat × TypeId × Bool × Nat)) (x : Value) (j : Int) : Option Value := match q, x with
  | some (some n, _, _, s), .pointer (some ⟨b, o, none⟩) => place b o j n s
  | some (none, _, _, s), .slice (some ⟨b, o, none⟩) n _ => place b o j n s
  | _, _ => none
theorem idxA (P : Program) (t : TypeId) (x : Value) (k : IntKind) (j : Int) : idxAV P t x (.int k j) = ia (tElem P t) x j := rfl
theorem ia_arr (n e : Nat) (g : Bool) (s b o : Nat) (j : Int) : ia (some (some n, e, g, s)) (.pointer (some ⟨b, o, none⟩)) j = place b o j n s := rfl
theorem ia_sl (e : Nat) (g : Bool) (s b o n c : Nat) (j : Int) : ia (some (none, e, g, s)) (.slice (some ⟨b, o, none⟩) n c) j = place b o j n s := rfl
def ix (q : Option (Option Nat × TypeId × Bool × Nat)) (cs : List Value) (j : Int) : Option Value := match q with
  | some (some n, _, b, s) => if 0 ≤ j ∧ j < (n : Int) then partV b s cs (j.toNat * s) else none
  | _ => none
theorem idx (P : Program) (t : TypeId) (cs : Array Value) (k : IntKind) (j : Int) : idxV P t (.agg cs) (.int k j) = ix (tElem P t) cs.toList j := rfl
theorem ix_in {n e : Nat} {g : Bool} {s : Nat} {cs : List Value} {j : Int} (h : 0 ≤ j ∧ j < (n : Int)) : ix (some (some n, e, g, s)) cs j = partV g s cs (j.toNat * s) := by simp [ix, h]
theorem extr (vs : List Value) (i : Nat) : extrV (.tuple vs.toArray) i = vs[i]? := by simp [extrV]
def lnU (d : Option TypeDesc) (x : Value) : Option Value := match d, x with
  | some .string, .string s => some (.int .i64 s.size)
  | some (.array n _), _ => some (.int .i64 n)
  | some (.slice _), .slice _ n _ => some (.int .i64 n)
  | some (.map _ _), .map none => some (.int .i64 0)
  | _, _ => none
theorem len_u (P : Program) (t : TypeId) (x : Value) : lenV P t x = lnU (P.underlying t) x := rfl
theorem ln_str (s : ByteArray) : lnU (some .string) (.string s) = some (.int .i64 s.size) := rfl
theorem ln_sl (e : TypeId) (a : Option Addr) (n c : Nat) : lnU (some (.slice e)) (.slice a n c) = some (.int .i64 n) := rfl
def rdT (q : Option (Bool × Nat)) (m : Option AO) (o : Nat) : Option Value := match q, m with
  | some (true, s), some (.cells c _) => (sub c o s).map fun cs => .agg cs.toArray
  | some (true, s), some (.ro z c) => if z ≤ o then (sub c (o - z) s).map fun cs => .agg cs.toArray else none
  | some (false, _), some (.cells c _) => c[o]?
  | some (false, _), some (.ro z c) => if z ≤ o then c[o - z]? else none
  | _, _ => none
theorem rd (X : Cx) (L : List AO) (t : TypeId) (b o : Nat) : rdL X L t (.pointer (some ⟨b, o, none⟩)) = rdT (tSz X.P t) (look X L b) o := by
  simp only [rdL, rdT]
  cases tSz X.P t with
  | none => rfl
  | some p =>
    obtain ⟨g, s⟩ := p
    cases g <;> (cases look X L b with
      | none => rfl
      | some q => cases q <;> rfl)
def aggO (o : Option (List Value)) : Option Value := o.map fun cs => .agg cs.toArray
theorem aggO_some (cs : List Value) : aggO (some cs) = some (.agg cs.toArray) := rfl
theorem rd_cell (s o : Nat) (c : List Value) (T : TypeId) : rdT (some (false, s)) (some (.cells c T)) o = c[o]? := rfl
theorem rd_agg (s o : Nat) (c : List Value) (T : TypeId) : rdT (some (true, s)) (some (.cells c T)) o = aggO (sub c o s) := rfl
theorem rd_ro {s o z : Nat} {c : List Value} (h : z ≤ o) : rdT (some (false, s)) (some (.ro z c)) o = c[o - z]? := by simp [rdT, h]
def wrT (q : Option (Bool × Nat)) (L : List AO) (i o : Nat) (v : List Value) : Option (List AO) := match q, L[i]? with
  | some (_, s), some (.cells c T) => if v.length = s ∧ v.all one = true ∧ o + s ≤ c.length then some (L.set i (.cells (spl c o v) T)) else none
  | _, _ => none
theorem wr {X : Cx} {L : List AO} {t : TypeId} {b o : Nat} {v : Value} (h : 100 ≤ b) : wrL X L t (.pointer (some ⟨b, o, none⟩)) v = wrT (tSz X.P t) L (b - 100) o (cellsL v) := by
  simp only [wrL, wrT]
  cases tSz X.P t with
  | none => rfl
  | some p =>
    simp only
    rw [if_neg (by omega)]
    cases L[b - 100]? with
    | none => rfl
    | some q => cases q <;> rfl
def wrC (m : Option AO) (L : List AO) (i s o : Nat) (v : List Value) : Option (List AO) := match m with
  | some (.cells c T) => if v.length = s ∧ v.all one = true ∧ o + s ≤ c.length then some (L.set i (.cells (spl c o v) T)) else none
  | _ => none
theorem wrT_c (g : Bool) (s : Nat) (L : List AO) (i o : Nat) (v : List Value) : wrT (some (g, s)) L i o v = wrC L[i]? L i s o v := by
  simp only [wrT, wrC]
  cases L[i]? with
  | none => rfl
  | some q => cases q <;> rfl
theorem wrC_in {c : List Value} {T : TypeId} {L : List AO} {i s o : Nat} {v : List Value} (h1 : v.length = s) (h2 : v.all one = true) (h3 : o + s ≤ c.length) : wrC (some (.cells c T)) L i s o v = some (L.set i (.cells (spl c o v) T)) := by simp [wrC, h1, h2, h3]
theorem wrC_1 {c : List Value} {T : TypeId} {L : List AO} {i o : Nat} {v : Value} (h2 : one v = true) (h3 : o < c.length) : wrC (some (.cells c T)) L i 1 o [v] = some (L.set i (.cells (c.set o v) T)) := by
  rw [wrC_in (s := 1) (v := [v]) rfl (by simp [h2]) (by omega)]; rfl
theorem wrC_int {c : List Value} {T : TypeId} {L : List AO} {i o : Nat} {k : IntKind} {n : Int} (h3 : o < c.length) : wrC (some (.cells c T)) L i 1 o [.int k n] = some (L.set i (.cells (c.set o (.int k n)) T)) := wrC_1 rfl h3
theorem wrC_bool {c : List Value} {T : TypeId} {L : List AO} {i o : Nat} {n : Bool} (h3 : o < c.length) : wrC (some (.cells c T)) L i 1 o [.bool n] = some (L.set i (.cells (c.set o (.bool n)) T)) := wrC_1 rfl h3
theorem wrC_slice {c : List Value} {T : TypeId} {L : List AO} {i o : Nat} {p : Option Addr} {n m : Nat} (h3 : o < c.length) : wrC (some (.cells c T)) L i 1 o [.slice p n m] = some (L.set i (.cells (c.set o (.slice p n m)) T)) := wrC_1 rfl h3
theorem cl_int (k : IntKind) (n : Int) : cellsL (.int k n) = [.int k n] := rfl
theorem cl_bool (b : Bool) : cellsL (.bool b) = [.bool b] := rfl
theorem cl_str (b : ByteArray) : cellsL (.string b) = [.string b] := rfl
theorem cl_ptr (b : Option Addr) : cellsL (.pointer b) = [.pointer b] := rfl
theorem cl_sl (b : Option Addr) (n c : Nat) : cellsL (.slice b n c) = [.slice b n c] := rfl
theorem cl_agg (l : List Value) : cellsL (.agg l.toArray) = l := rfl
theorem fnO_some (f : FuncId) (a b : List Value) : fnO (some (.func (.func f) a.toArray b.toArray)) = some (f, a, b) := rfl
theorem evs_nil (ng : Nat) (fr : Fr) : evs ng fr [] = some [] := rfl
def consO (v : Option Value) (vs : Option (List Value)) : Option (List Value) := v.bind fun v => vs.map fun vs => v :: vs
theorem consO_some (v : Value) (vs : List Value) : consO (some v) (some vs) = some (v :: vs) := rfl
theorem evs_cons (ng : Nat) (fr : Fr) (x : Operand) (xs : List Operand) : evs ng fr (x :: xs) = consO (evO ng fr x) (evs ng fr xs) := rfl
def resC (v : Option Value) (vs : Option (List Value)) : Option (List Value) := v.bind fun v => vs.map fun vs => v :: vs
theorem res_nil (X : Cx) (fr : Fr) (L : List AO) : resV X fr L [] = some [] := rfl
theorem res_tmp (X : Cx) (fr : Fr) (L : List AO) (t : Tmp) (rs : List ResultVar) : resV X fr L (.tmp t :: rs) = consO (fr.get t) (resV X fr L rs) := rfl
theorem res_cell (X : Cx) (fr : Fr) (L : List AO) (a : Tmp) (t : TypeId) (rs : List ResultVar) : resV X fr L (.cell a t :: rs) = consO (ap1 (rdL X L t) (fr.get a)) (resV X fr L rs) := rfl
theorem resOf_1 (v : Value) : resOf [v] = v := rfl
theorem resOf_0 : resOf [] = .tuple [].toArray := rfl
theorem resOf_2 (v u : Value) (vs : List Value) : resOf (v :: u :: vs) = .tuple (v :: u :: vs).toArray := rfl
theorem init_nil (i : Nat) : initFr i [] = [] := rfl
theorem init_cons (i : Nat) (v : Value) (vs : List Value) : initFr i (v :: vs) = (i, v) :: initFr (i + 1) vs := rfl
def gdO (o : Option Oper) (fr : Fr) : Option Value := match o.bind (·.dst) with
  | some t => fr.get t
  | none => none
theorem gd_o (all : List Oper) (fr : Fr) (j : Nat) : gd all fr j = gdO all[j]? fr := rfl
theorem gdO_some (t : Tmp) (op : Op) (ty : TypeId) (p : String) (af : Array Edge) (g : Option (Nat × Bool)) (fr : Fr) : gdO (some { dst := some t, op, type := ty, pos := p, after := af, guard := g }) fr = fr.get t := rfl
section
variable {a b : Int}
theorem d_lt1 (h : a < b) : decide (a < b) = true := decide_eq_true h
theorem d_lt0 (h : b ≤ a) : decide (a < b) = false := decide_eq_false (by omega)
theorem d_le1 (h : a ≤ b) : decide (a ≤ b) = true := decide_eq_true h
theorem d_le0 (h : b < a) : decide (a ≤ b) = false := decide_eq_false (by omega)
theorem d_eq1 (h : a = b) : decide (a = b) = true := decide_eq_true h
theorem d_eq0 (h : a ≠ b) : decide (a = b) = false := decide_eq_false h
end
theorem gd_bool {all : List Oper} {o : Oper} {rest : List Oper} {K : Fr → List AO → Prop} {b want : Bool} {fr : Fr} {L : List AO} (h1 : b = true → onGd X (some (.bool true)) want all o rest fr L K) (h2 : b = false → onGd X (some (.bool false)) want all o rest fr L K) : onGd X (some (.bool b)) want all o rest fr L K := by
  cases b
  · exact h2 rfl
  · exact h1 rfl
theorem gd_ndec {all : List Oper} {o : Oper} {rest : List Oper} {K : Fr → List AO → Prop} {p : Prop} {_ : Decidable p} {want : Bool} {fr : Fr} {L : List AO} (h1 : ¬ p → onGd X (some (.bool true)) want all o rest fr L K) (h2 : p → onGd X (some (.bool false)) want all o rest fr L K) : onGd X (some (.bool (!decide p))) want all o rest fr L K := by
  by_cases h : p
  · rw [decide_eq_true h]; exact h2 h
  · rw [decide_eq_false h]; exact h1 h
theorem get0 {α : Type} (a : α) (l : List α) : (a :: l)[0]? = some a := rfl
theorem getS {α : Type} (a : α) (l : List α) (n : Nat) : (a :: l)[n + 1]? = l[n]? := rfl
theorem c_skip (N D n0 V Q fr L) : wpC X N D n0 V .skip Q fr L = Q .normal fr L := rfl
theorem c_exit (N D n0 V i Q fr L) : wpC X N D n0 V (.exit i) Q fr L = Q (.exit i) fr L := rfl
theorem c_ret (N D n0 V Q fr L) : wpC X N D n0 V .ret Q fr L = Q .ret fr L := rfl
theorem c_draw (N D n0 V id ops Q fr L) : wpC X N D n0 V (.region id ops true) Q fr L = DrawM X N D n0 id ops (fun fr' L' => Q .normal (Fr.keep V fr') L') fr L := rfl
theorem c_region (N D n0 V id ops Q fr L) : wpC X N D n0 V (.region id ops false) Q fr L = wpOps X ops.toList ops.toList fr L fun fr' L' => Q .normal (Fr.keep V fr') L' := rfl
theorem c_block (N D n0 V i c Q fr L) : wpC X N D n0 V (.block i c) Q fr L = wpC X N D n0 V c (blockQ i Q) fr L := rfl
theorem c_loop (N D n0 V c Q fr L) : wpC X N D n0 V (.loop c) Q fr L = LoopM X N D n0 c Q fr L := rfl
inductive Out where
  | v (v : Value) (L : List AO)
  | c (g : FuncId × List Value × List Value) (vs : List Value)
  | a (vs : List Value) (ts : List TypeId)
  | bad
def ofV (o : Option Value) : Out := match o with
  | some v => .v v []
  | none => .bad
theorem ofV_some (v : Value) : ofV (some v) = .v v [] := rfl
def ofVL (o : Option (Value × List AO)) : Out := match o with
  | some (v, L) => .v v L
  | none => .bad
theorem ofVL_some (v : Value) (L : List AO) : ofVL (some (v, L)) = .v v L := rfl
def callR (g : Option (FuncId × List Value × List Value)) (vs : Option (List Value)) : Out := match g, vs with
  | some g, some vs => .c g vs
  | _, _ => .bad
theorem callR_some (g : FuncId × List Value × List Value) (vs : List Value) : callR (some g) (some vs) = .c g vs := rfl
def bdO (P : Program) (t : TypeId) (ps : Option (List (Nat × Value))) : Option Value := ps.bind (buildV P t)
theorem bdO_some (P : Program) (t : TypeId) (ps : List (Nat × Value)) : bdO P t (some ps) = buildV P t ps := rfl
noncomputable def outQ (X : Cx) (fr : Fr) (L : List AO) (op : Op) : Out := match op with
  | .load t x => ofV ((evO X.ng fr x).bind (rdL X L t))
  | .call { callee := .value f, args, argTypes := _ } => callR ((evO X.ng fr f).bind fnOf) (evs X.ng fr args.toList)
  | .build t parts => ofV ((pts X.ng fr parts.toList).bind (buildV X.P t))
  | op => ofV (pureV X.P X.ng fr op)
def onQ (X : Cx) (o : Out) (L : List AO) (K : Value → Prop) : Prop := match o with
  | .v v _ => K v
  | .c g vs => CallQ X g.1 (g.2.1 ++ vs ++ g.2.2) L K
  | _ => False
theorem wpQ_out (fr : Fr) (L : List AO) (op : Op) (K : Value → Prop) : wpQ X fr L op K = onQ X (outQ X fr L op) L K := by
  have key : ∀ o : Option Value, (onV o fun v => K v) = onQ X (ofV o) L K := fun o => by cases o <;> rfl
  unfold wpQ outQ
  split
  · exact key _
  · rename_i f args _
    cases h1 : (evO X.ng fr f).bind fnOf with
    | none => simp [h1, onV, callR, onQ]
    | some g => cases h2 : evs X.ng fr args.toList with
      | none => simp [h1, h2, onV, callR, onQ]
      | some vs => simp [h1, h2, onV, callR, onQ]
  · exact key _
  · rename_i h1 h2 h3
    split
    · exact absurd rfl (h1 _ _)
    · exact absurd rfl (h2 _ _ _)
    · exact absurd rfl (h3 _ _)
    · exact key _
section
variable (fr : Fr) (L : List AO)
theorem q_load (t : TypeId) (x : Operand) : outQ X fr L (.load t x) = ofV (ap1 (rdL X L t) (evO X.ng fr x)) := rfl
theorem q_move (x : Operand) : outQ X fr L (.move x) = ofV (evO X.ng fr x) := rfl
theorem q_assign (x : Operand) : outQ X fr L (.assign x) = ofV (evO X.ng fr x) := rfl
theorem q_pick (c x y : Operand) : outQ X fr L (.pick c x y) = ofV (pickV (evO X.ng fr c) (evO X.ng fr x) (evO X.ng fr y)) := rfl
theorem q_nilCheck (x : Operand) : outQ X fr L (.nilCheck x) = ofV (ap1 nilV (evO X.ng fr x)) := rfl
theorem q_bin (op : BinOp) (t : TypeId) (x y : Operand) (u : TypeId) : outQ X fr L (.binOp op t x y u) = ofV (ap2 (binV X.P op t) (evO X.ng fr x) (evO X.ng fr y)) := rfl
theorem q_un (op : UnOp) (t : TypeId) (x : Operand) : outQ X fr L (.unOp op t x) = ofV (ap1 (unV op) (evO X.ng fr x)) := rfl
theorem q_conv (s t : TypeId) (x : Operand) : outQ X fr L (.convert s t x) = ofV (ap1 (convV X.P s t) (evO X.ng fr x)) := rfl
theorem q_faddr (t : TypeId) (x : Operand) (f : Nat) : outQ X fr L (.fieldAddr t x f) = ofV (ap1 (fldAV X.P t f) (evO X.ng fr x)) := rfl
theorem q_iaddr (t : TypeId) (x i : Operand) : outQ X fr L (.indexAddr t x i) = ofV (ap2 (idxAV X.P t) (evO X.ng fr x) (evO X.ng fr i)) := rfl
theorem q_extract (x : Operand) (i : Nat) : outQ X fr L (.extract x i) = ofV (ap1 (fun a => extrV a i) (evO X.ng fr x)) := rfl
theorem q_build (t : TypeId) (parts : Array (Nat × Operand)) : outQ X fr L (.build t parts) = ofV (bdO X.P t (pts X.ng fr parts.toList)) := rfl
theorem q_call (f : Operand) (args : Array Operand) (tys : Array TypeId) : outQ X fr L (.call { callee := .value f, args, argTypes := tys }) = callR (fnO (evO X.ng fr f)) (evs X.ng fr args.toList) := rfl
end
def prtO (i : Nat) (v : Option Value) (vs : Option (List (Nat × Value))) : Option (List (Nat × Value)) := v.bind fun v => vs.map fun vs => (i, v) :: vs
theorem prtO_some (i : Nat) (v : Value) (vs : List (Nat × Value)) : prtO i (some v) (some vs) = some ((i, v) :: vs) := rfl
theorem pts_nil (ng : Nat) (fr : Fr) : pts ng fr [] = some [] := rfl
theorem pts_cons (ng : Nat) (fr : Fr) (i : Nat) (x : Operand) (xs : List (Nat × Operand)) : pts ng fr ((i, x) :: xs) = prtO i (evO ng fr x) (pts ng fr xs) := rfl
def newR (L : List AO) (o : Option (TypeId × Nat × Nat × List Value)) : Option (Value × List AO) := o.map fun p => (.slice (some ⟨100 + L.length, 0, none⟩) p.2.1 p.2.2.1, L ++ [.cells p.2.2.2 p.1])
theorem newR_some (L : List AO) (e : TypeId) (m k : Nat) (cs : List Value) : newR L (some (e, m, k, cs)) = some (.slice (some ⟨100 + L.length, 0, none⟩) m k, L ++ [.cells cs e]) := rfl
def bsO (P : Program) (t : TypeId) (n : Nat) (ps : Option (List (Nat × Value))) : Option (TypeId × Nat × Nat × List Value) := (ps.bind (bsV P t n)).map fun p => (p.1, n, n, p.2)
theorem bsO_some (P : Program) (t : TypeId) (n : Nat) (ps : List (Nat × Value)) : bsO P t n (some ps) = (bsV P t n ps).map fun p => (p.1, n, n, p.2) := rfl
def appR (vs : Option (List Value)) (ts : List TypeId) : Out := match vs with
  | some vs => .a vs ts
  | none => .bad
theorem appR_some (vs : List Value) (ts : List TypeId) : appR (some vs) ts = .a vs ts := rfl
def outE (X : Cx) (fr : Fr) (L : List AO) (op : Op) : Out := match op with
  | .store t x y => ofVL (storeL (ap2 (wrL X L t) (evO X.ng fr x) (evO X.ng fr y)))
  | .alloc t => ofVL (allocL L t (tZero X.P t))
  | .box t x => ofVL (boxL L t (evO X.ng fr x))
  | .call { callee := .value f, args, argTypes := _ } => callR ((evO X.ng fr f).bind fnOf) (evs X.ng fr args.toList)
  | .call { callee := .builtin .append, args, argTypes } => appR (evs X.ng fr args.toList) argTypes.toList
  | .buildSlice t n parts => ofVL (newR L (bsO X.P t n (pts X.ng fr parts.toList)))
  | .makeSlice t l c => ofVL (newR L (ap2 (msV X.P t) (evO X.ng fr l) (evO X.ng fr c)))
  | _ => .bad
def onE (X : Cx) (o : Out) (L : List AO) (K : Value → List AO → Prop) : Prop := match o with
  | .v v L' => K v L'
  | .c g vs => CallM X g.1 (g.2.1 ++ vs ++ g.2.2) L K
  | .a vs ts => app2 X L vs ts K
  | .bad => False
theorem onE_wpO {fr : Fr} {L : List AO} {op : Op} {K : Value → List AO → Prop} (h : onE X (outE X fr L op) L K) : wpO X fr L op K := by
  unfold outE at h
  split at h
  · rename_i t x y
    simp only [wpO]
    cases h1 : evO X.ng fr x with
    | none => simp [h1, ap2, storeL, ofVL, onE] at h
    | some p => cases h2 : evO X.ng fr y with
      | none => simp [h1, h2, ap2, storeL, ofVL, onE] at h
      | some q =>
        simp only [h1, h2, ap2_some, Option.bind_some] at h ⊢
        cases h3 : wrL X L t p q with
        | none => simp [h3, storeL, ofVL, onE] at h
        | some L' => simpa [h3, storeL, ofVL, onE, onV] using h
  · rename_i t
    simp only [wpO]
    cases h1 : tZero X.P t with
    | none => simp [h1, allocL, ofVL, onE] at h
    | some p => simpa [h1, allocL, ofVL, onE, onV] using h
  · rename_i t x
    simp only [wpO]
    cases h1 : evO X.ng fr x with
    | none => simp [h1, boxL, ofVL, onE] at h
    | some p => simpa [h1, boxL, ofVL, onE, onV] using h
  · rename_i f args _
    simp only [wpO]
    cases h1 : (evO X.ng fr f).bind fnOf with
    | none => simp [h1, callR, onE] at h
    | some g => cases h2 : evs X.ng fr args.toList with
      | none => simp [h1, h2, callR, onE] at h
      | some vs => simpa [h1, h2, callR, onE, onV] using h
  · rename_i args tys
    simp only [wpO]
    cases h2 : evs X.ng fr args.toList with
    | none => simp [h2, appR, onE] at h
    | some vs => simpa [h2, appR, onE, onV] using h
  · rename_i t n parts
    simp only [wpO]
    cases h1 : (pts X.ng fr parts.toList).bind (bsV X.P t n) with
    | none => simp [h1, bsO, newR, ofVL, onE] at h
    | some p => simpa [h1, bsO, newR, ofVL, onE, onV, newB] using h
  · rename_i t l c
    simp only [wpO]
    cases h1 : evO X.ng fr l with
    | none => simp [h1, ap2, newR, ofVL, onE] at h
    | some p => cases h2 : evO X.ng fr c with
      | none => simp [h1, h2, ap2, newR, ofVL, onE] at h
      | some q =>
        simp only [h1, h2, ap2_some, Option.bind_some] at h ⊢
        cases h3 : msV X.P t p q with
        | none => simp [h3, newR, ofVL, onE] at h
        | some p => simpa [h3, newR, ofVL, onE, onV, newB] using h
  · exact h.elim
def piG (X : Cx) (b : Bool) (o : Out) (dst : Option Tmp) (op : Op) (i : Nat) (all : List Oper) (rest : List (Nat × Step)) (acc : AccA) (fr : Fr) (L : List AO) (K : Fr → List AO → Prop) : Prop :=
  onQ X o L fun v => wpPi X all rest (if b then (i, obl X fr op v) :: acc else acc) (fr.put dst v) L K
def piC (X : Cx) (b : Bool) (c : Option Value) (want : Bool) (dst : Option Tmp) (op : Op) (i : Nat) (all : List Oper) (rest : List (Nat × Step)) (acc : AccA) (fr : Fr) (L : List AO) (K : Fr → List AO → Prop) : Prop :=
  onG c want (piG X b (outQ X fr L op) dst op i all rest acc fr L K) (wpPi X all rest acc (fr.put dst (.tuple #[])) L K)
def piO (X : Cx) (b : Bool) (o : Option Oper) (i : Nat) (all : List Oper) (rest : List (Nat × Step)) (acc : AccA) (fr : Fr) (L : List AO) (K : Fr → List AO → Prop) : Prop := match o with
  | some { dst, op, guard := none, .. } => piG X b (outQ X fr L op) dst op i all rest acc fr L K
  | some { dst, op, guard := some (j, want), .. } => piC X b (gd all fr j) want dst op i all rest acc fr L K
  | none => False
section
variable (all : List Oper) (rest : List (Nat × Step)) (acc : AccA) (fr : Fr) (L : List AO) (K : Fr → List AO → Prop) (i : Nat)
theorem pi_nil : wpPi X all [] acc fr L K = K fr L := rfl
theorem pi_q : wpPi X all ((i, .q) :: rest) acc fr L K = piO X false all[i]? i all rest acc fr L K := by
  simp only [wpPi, piO]
  cases all[i]? with
  | none => rfl
  | some o =>
    obtain ⟨dst, op, ty, ps, af, g⟩ := o
    cases g with
    | none => simp only [wpQ_out, piG]; rfl
    | some p => obtain ⟨j, want⟩ := p; simp only [wpQ_out, piC, piG, true_and]; rfl
theorem pi_r : wpPi X all ((i, .r) :: rest) acc fr L K = piO X true all[i]? i all rest acc fr L K := by
  simp only [wpPi, piO]
  cases all[i]? with
  | none => rfl
  | some o =>
    obtain ⟨dst, op, ty, ps, af, g⟩ := o
    cases g with
    | none => simp only [wpQ_out, piG]; rfl
    | some p => obtain ⟨j, want⟩ := p; simp only [wpQ_out, piC, piG, true_and]; rfl
variable (b : Bool) (dst : Option Tmp) (op : Op) (type : TypeId) (pos : String) (after : Array Edge)
theorem piO_n : piO X b (some { dst, op, type, pos, after, guard := none }) i all rest acc fr L K = piG X b (outQ X fr L op) dst op i all rest acc fr L K := rfl
theorem piG_f (v : Value) (M : List AO) : piG X false (.v v M) dst op i all rest acc fr L K = wpPi X all rest acc (fr.put dst v) L K := rfl
theorem piG_t (v : Value) (M : List AO) : piG X true (.v v M) dst op i all rest acc fr L K = wpPi X all rest ((i, obl X fr op v) :: acc) (fr.put dst v) L K := rfl
end
section
variable {all : List Oper} {rest : List (Nat × Step)} {acc : AccA} {fr : Fr} {L : List AO} {K : Fr → List AO → Prop} {i : Nat} {b : Bool} {dst : Option Tmp} {op : Op} {type : TypeId} {pos : String} {after : Array Edge} {want : Bool}
theorem piC_bool {c : Bool} (h1 : c = true → piC X b (some (.bool true)) want dst op i all rest acc fr L K) (h2 : c = false → piC X b (some (.bool false)) want dst op i all rest acc fr L K) : piC X b (some (.bool c)) want dst op i all rest acc fr L K := by
  cases c
  · exact h2 rfl
  · exact h1 rfl
theorem piC_dec {p : Prop} {_ : Decidable p} (h1 : p → piC X b (some (.bool true)) want dst op i all rest acc fr L K) (h2 : ¬ p → piC X b (some (.bool false)) want dst op i all rest acc fr L K) : piC X b (some (.bool (decide p))) want dst op i all rest acc fr L K :=
  piC_bool (fun h => h1 (of_decide_eq_true h)) (fun h => h2 (of_decide_eq_false h))
theorem piC_ndec {p : Prop} {_ : Decidable p} (h1 : ¬ p → piC X b (some (.bool true)) want dst op i all rest acc fr L K) (h2 : p → piC X b (some (.bool false)) want dst op i all rest acc fr L K) : piC X b (some (.bool (!decide p))) want dst op i all rest acc fr L K :=
  piC_bool (fun h => h1 (by simpa using h)) (fun h => h2 (by simpa using h))
theorem piG_call {f : FuncId} {vs : List Value} {v : Value} (h : FnP X f vs v) (hk : wpPi X all rest (if b then (i, obl X fr op v) :: acc else acc) (fr.put dst v) L K) : piG X b (.c (f, [], []) vs) dst op i all rest acc fr L K := by
  show CallQ X f ([] ++ vs ++ []) L _
  rw [List.nil_append, List.append_nil]
  exact h.q hk
def piE (X : Cx) (o : Out) (dst : Option Tmp) (js : List Nat) (all : List Oper) (rest : List (Nat × Step)) (acc : AccA) (fr : Fr) (L : List AO) (K : Fr → List AO → Prop) : Prop :=
  onE X o L fun v L' => chk js acc L' ∧ wpPi X all rest acc (fr.put dst v) L' K
theorem pi_e {js : List Nat} {o : Oper} (ho : all[i]? = some o) (hg : o.guard = none) (h : piE X (outE X fr L o.op) o.dst js all rest acc fr L K) : wpPi X all ((i, .e js) :: rest) acc fr L K := by
  simp only [wpPi, ho, hg]
  exact onE_wpO h
end
def onOb (o : Out) (v : Value) : Prop := match o with
  | .v u _ => u = v
  | _ => False
theorem chk_nil (acc : AccA) (L : List AO) : chk [] acc L = True := rfl
theorem chk_cons (j : Nat) (js : List Nat) (acc : AccA) (L : List AO) : chk (j :: js) acc L = (pend j acc L ∧ chk js acc L) := rfl
theorem pend_nil (j : Nat) (L : List AO) : pend j [] L = True := rfl
theorem pend_cons (j i : Nat) (b : List AO → Prop) (r : AccA) (L : List AO) : pend j ((i, b) :: r) L = ((if i = j then b L else True) ∧ pend j r L) := rfl
section
variable (all : List Oper) (dst : Option Tmp) (type : TypeId) (pos : String) (after : Array Edge) (rest : List Oper) (fr : Fr) (L : List AO) (K : Fr → List AO → Prop)
theorem ops_build (t : TypeId) (parts : Array (Nat × Operand)) : wpOps X all ({ dst, op := .build t parts, type, pos, after, guard := none } :: rest) fr L K = onP X (keepL L (bdO X.P t (pts X.ng fr parts.toList))) all rest fr dst K := pure_ops _ _ _ _ _ _ _ _ _ rfl
theorem ops_bslice (t : TypeId) (n : Nat) (parts : Array (Nat × Operand)) : wpOps X all ({ dst, op := .buildSlice t n parts, type, pos, after, guard := none } :: rest) fr L K = onP X (newR L (bsO X.P t n (pts X.ng fr parts.toList))) all rest fr dst K := mem_ops _ _ _ _ _ _ _ _ _ (by
  simp only [wpO, newR, bsO]
  cases (pts X.ng fr parts.toList).bind (bsV X.P t n) <;> rfl)
theorem ops_mslice (t : TypeId) (l c : Operand) : wpOps X all ({ dst, op := .makeSlice t l c, type, pos, after, guard := none } :: rest) fr L K = onP X (newR L (ap2 (msV X.P t) (evO X.ng fr l) (evO X.ng fr c))) all rest fr dst K := mem_ops _ _ _ _ _ _ _ _ _ (by
  simp only [wpO, newR, ap2]
  cases (evO X.ng fr l).bind fun a => (evO X.ng fr c).bind fun b => msV X.P t a b <;> rfl)
def CpyO (X : Cx) (vs : Option (List Value)) (ts : List TypeId) (all rest : List Oper) (fr : Fr) (d : Option Tmp) (L : List AO) (K : Fr → List AO → Prop) : Prop :=
  onV vs fun vs => cpy2 X L vs ts fun v L' => wpOps X all rest (fr.put d v) L' K
theorem ops_copy (args : Array Operand) (tys : Array TypeId) : wpOps X all ({ dst, op := .call { callee := .builtin .copy, args, argTypes := tys }, type, pos, after, guard := none } :: rest) fr L K = CpyO X (evs X.ng fr args.toList) tys.toList all rest fr dst L K := rfl
def AppO (X : Cx) (vs : Option (List Value)) (ts : List TypeId) (all rest : List Oper) (fr : Fr) (d : Option Tmp) (L : List AO) (K : Fr → List AO → Prop) : Prop :=
  onV vs fun vs => app2 X L vs ts fun v L' => wpOps X all rest (fr.put d v) L' K
theorem ops_append (args : Array Operand) (tys : Array TypeId) : wpOps X all ({ dst, op := .call { callee := .builtin .append, args, argTypes := tys }, type, pos, after, guard := none } :: rest) fr L K = AppO X (evs X.ng fr args.toList) tys.toList all rest fr dst L K := rfl
end
theorem rdS_own {L : List AO} {i n : Nat} {c tl : List Value} {T : TypeId} (h : L[i]? = some (.cells (c ++ tl) T)) (hc : c.length = n) : rdS (X.pad ++ L) (100 + i) 0 n = some c := by
  unfold rdS
  rw [look_eq, look_hi (by omega), show 100 + i - 100 = i by omega, h]
  subst hc
  simp [sub]
theorem app_gen {t tx e sz b n c m : Nat} {base : Option Addr} {x : Value} {zc olds news : List Value} {L : List AO} {K : Value → List AO → Prop} (hsl : tSl X.P t = some (e, sz, b)) (hz : tZero X.P e = some zc) (hzl : zc.length = sz)
    (hsrc : srcM X.P (X.pad ++ L) sz tx x = some (m, news)) (h1 : news.all one = true) (hold : oldM (X.pad ++ L) base (n * sz) = some olds)
    (room : n + m ≤ c → ∃ L', putM (X.pad ++ L) base (n * sz) news = some (X.pad ++ L') ∧ K (.slice base (n + m) c) L')
    (grow : c < n + m → (n + m) * b ≤ 140737488355328 ∧ n + m ≤ 9223372036854775807 ∧ ∀ c', n + m ≤ c' → K (.slice (some ⟨100 + L.length, 0, none⟩) (n + m) c') (L ++ [.cells (olds ++ news ++ zrep (c' - (n + m)) zc) e])) :
    app2 X L [.slice base n c, x] [t, tx] K := by
  simp only [app2, AppM]
  refine ⟨e, sz, b, zc, m, news, hsl, hz, hsrc, hzl, h1, ?_⟩
  rcases Nat.lt_or_ge c (n + m) with h | h
  · obtain ⟨g1, g2, g3⟩ := grow h
    refine .inr ⟨h, g1, g2, olds, hold, fun c' hc' => ⟨L ++ [.cells (olds ++ news ++ zrep (c' - (n + m)) zc) e], by rw [List.append_assoc], ?_⟩⟩
    rw [full_len]; exact g3 c' hc'
  · obtain ⟨L', g1, g2⟩ := room h
    exact .inl ⟨h, _, g1, L', rfl, g2⟩
theorem putM_own {L : List AO} {i n : Nat} {c tl news : List Value} {T : TypeId} (h : L[i]? = some (.cells (c ++ tl) T)) (hc : c.length = n) (hl : news.length ≤ tl.length) :
    putM (X.pad ++ L) (some ⟨100 + i, 0, none⟩) n news = some (X.pad ++ L.set i (.cells (c ++ news ++ tl.drop news.length) T)) := by
  unfold putM
  simp only
  rw [look_eq, look_hi (by omega), show 100 + i - 100 = i by omega, h]
  simp only [Nat.zero_add, List.length_append]
  subst hc
  rw [if_pos (by omega), List.set_append_right _ _ (by rw [X.len]; omega), X.len, show 100 + i - 100 = i by omega]
  congr 3
  rw [spl_eq (by simp; omega), List.take_left', ← List.drop_drop, List.drop_left']
  · rfl
  · rfl
theorem src_own {L : List AO} {j m k : Nat} {sz tx : Nat} {news : List Value} {T : TypeId} (h : L[j]? = some (.cells news T)) (hs : isSl X.P tx = true) (hm : news.length = m * sz) : srcM X.P (X.pad ++ L) sz tx (.slice (some ⟨100 + j, 0, none⟩) m k) = some (m, news) := by
  unfold srcM
  simp only [hs, if_true]
  rw [rdS_own (tl := []) (c := news) (by simpa using h) hm]; rfl
theorem src_nil {L : List AO} {k : Nat} {sz tx : Nat} (hs : isSl X.P tx = true) : srcM X.P (X.pad ++ L) sz tx (.slice none 0 k) = some (0, []) := by
  simp [srcM, hs]
theorem app_own {t tx e sz b n cap m i : Nat} {x : Value} {zc con tl news : List Value} {T : TypeId} {L : List AO} {K : Value → List AO → Prop} (hsl : tSl X.P t = some (e, sz, b)) (hz : tZero X.P e = some zc) (hzl : zc.length = sz)
    (hsrc : srcM X.P (X.pad ++ L) sz tx x = some (m, news)) (h1 : news.all one = true) (hn : news.length = m * sz) (hL : L[i]? = some (.cells (con ++ tl) T)) (hcon : con.length = n * sz) (hcap : (con ++ tl).length = cap * sz) (hle : n ≤ cap)
    (room : n + m ≤ cap → K (.slice (some ⟨100 + i, 0, none⟩) (n + m) cap) (L.set i (.cells (con ++ news ++ tl.drop news.length) T)))
    (grow : cap < n + m → (n + m) * b ≤ 140737488355328 ∧ n + m ≤ 9223372036854775807 ∧ ∀ c', n + m ≤ c' → K (.slice (some ⟨100 + L.length, 0, none⟩) (n + m) c') (L ++ [.cells (con ++ news ++ zrep (c' - (n + m)) zc) e])) :
    app2 X L [.slice (some ⟨100 + i, 0, none⟩) n cap, x] [t, tx] K := by
  refine app_gen hsl hz hzl hsrc h1 (olds := con) (rdS_own hL hcon) (fun h => ⟨_, putM_own hL hcon ?_, room h⟩) grow
  rw [List.length_append, hcon] at hcap
  have h3 : (n + m) * sz ≤ cap * sz := Nat.mul_le_mul_right _ h
  rw [Nat.add_mul] at h3
  omega
theorem app_nil {t tx e sz b m : Nat} {x : Value} {zc news : List Value} {L : List AO} {K : Value → List AO → Prop} (hsl : tSl X.P t = some (e, sz, b)) (hz : tZero X.P e = some zc) (hzl : zc.length = sz)
    (hsrc : srcM X.P (X.pad ++ L) sz tx x = some (m, news)) (h1 : news.all one = true) (hn : news.length = m * sz)
    (room : m = 0 → K (.slice none 0 0) L)
    (grow : 0 < m → m * b ≤ 140737488355328 ∧ m ≤ 9223372036854775807 ∧ ∀ c', m ≤ c' → K (.slice (some ⟨100 + L.length, 0, none⟩) m c') (L ++ [.cells (news ++ zrep (c' - m) zc) e])) :
    app2 X L [.slice none 0 0, x] [t, tx] K := by
  refine app_gen hsl hz hzl hsrc h1 (olds := []) (by simp [oldM]) (fun h => ?_) (fun h => ?_)
  · obtain rfl : m = 0 := by omega
    refine ⟨L, ?_, room rfl⟩
    have : news = [] := List.length_eq_zero_iff.1 (by omega)
    simp [putM, this]
  · simpa using grow (by omega)
theorem cpy_k {vs : List Value} {ts : List TypeId} {all rest : List Oper} {fr : Fr} {d : Option Tmp} {L : List AO} {K : Fr → List AO → Prop} (h : cpy2 X L vs ts fun v L' => wpOps X all rest (fr.put d v) L' K) : CpyO X (some vs) ts all rest fr d L K := h
theorem app_k {vs : List Value} {ts : List TypeId} {all rest : List Oper} {fr : Fr} {d : Option Tmp} {L : List AO} {K : Fr → List AO → Prop} (h : app2 X L vs ts fun v L' => wpOps X all rest (fr.put d v) L' K) : AppO X (some vs) ts all rest fr d L K := h
def bdF (z : Option (List Value)) (a : Option Nat) (pl : Option (List (Nat × Nat))) (ps : List (Nat × Value)) : Option Value := match z, a, pl with
  | some zc, some s, _ => aggO (fillL (fun i => some (i * s, s)) zc ps)
  | some zc, none, some pl => aggO (fillL (fun i => pl[i]?) zc ps)
  | _, _, _ => none
theorem bd (P : Program) (t : TypeId) (ps : List (Nat × Value)) : buildV P t ps = bdF (tZero P t) (tArr P t) (tPl P t) ps := by
  simp only [buildV, bdF]
  cases tZero P t <;> cases tArr P t <;> cases tPl P t <;> rfl
theorem bdF_a (zc : List Value) (s : Nat) (pl : Option (List (Nat × Nat))) (ps : List (Nat × Value)) : bdF (some zc) (some s) pl ps = aggO (fillL (fun i => some (i * s, s)) zc ps) := rfl
theorem bdF_s (zc : List Value) (pl : List (Nat × Nat)) (ps : List (Nat × Value)) : bdF (some zc) none (some pl) ps = aggO (fillL (fun i => pl[i]?) zc ps) := rfl
def flO (q : Option (Nat × Nat)) (pl : Nat → Option (Nat × Nat)) (c : List Value) (vs : List Value) (ps : List (Nat × Value)) : Option (List Value) := match q with
  | some (off, size) => if vs.length = size ∧ off + size ≤ c.length then fillL pl (spl c off vs) ps else none
  | none => none
theorem fl_nil (pl : Nat → Option (Nat × Nat)) (c : List Value) : fillL pl c [] = some c := rfl
theorem fl_cons (pl : Nat → Option (Nat × Nat)) (c : List Value) (i : Nat) (v : Value) (ps : List (Nat × Value)) : fillL pl c ((i, v) :: ps) = flO (pl i) pl c (cellsL v) ps := by
  simp only [fillL, flO]; cases pl i <;> rfl
theorem spl_1 (c : List Value) (o : Nat) (v : Value) : spl c o [v] = c.set o v := rfl
def bsF (sl : Option (TypeId × Nat × Nat)) (z : Option (List Value)) (n : Nat) (ps : List (Nat × Value)) : Option (TypeId × Nat × Nat × List Value) := match sl, z with
  | some (e, s, _), some zc => if n * s ≤ 16777216 ∧ zc.length = s ∧ s ≠ 0 then (fillL (fun i => some (i * s, s)) (zrep n zc) ps).map fun cs => (e, n, n, cs) else none
  | _, _ => none
def tZ (P : Program) (o : Option (TypeId × Nat × Nat)) : Option (List Value) := match o with
  | some (e, _, _) => tZero P e
  | none => none
theorem bs (P : Program) (t : TypeId) (n : Nat) (ps : List (Nat × Value)) : (bsV P t n ps).map (fun p => (p.1, n, n, p.2)) = bsF (tSl P t) (tZ P (tSl P t)) n ps := by
  simp only [bsV, bsF, tZ]
  cases tSl P t with
  | none => rfl
  | some q =>
    obtain ⟨e, s, b⟩ := q
    simp only
    cases tZero P e with
    | none => rfl
    | some zc => simp only; split <;> simp [Option.map_map, Function.comp_def]
theorem tZ_some (P : Program) (e s b : Nat) : tZ P (some (e, s, b)) = tZero P e := rfl
def mp4 (e n : Nat) (o : Option (List Value)) : Option (TypeId × Nat × Nat × List Value) := o.map fun cs => (e, n, n, cs)
theorem mp4_some (e n : Nat) (cs : List Value) : mp4 e n (some cs) = some (e, n, n, cs) := rfl
theorem bsF_some {e s b n : Nat} {zc : List Value} {ps : List (Nat × Value)} (h : n * s ≤ 16777216 ∧ zc.length = s ∧ s ≠ 0) : bsF (some (e, s, b)) (some zc) n ps = mp4 e n (fillL (fun i => some (i * s, s)) (zrep n zc) ps) := by simp [bsF, mp4, h]
def msF (sl : Option (TypeId × Nat × Nat)) (z : Option (List Value)) (l c : Int) : Option (TypeId × Nat × Nat × List Value) := match sl, z with
  | some (e, s, b), some zc => if 0 ≤ l ∧ l ≤ c ∧ (b : Int) * c ≤ 281474976710656 ∧ c ≤ 9223372036854775807 ∧ zc.length = s ∧ s ≠ 0 then some (e, l.toNat, c.toNat, zrep c.toNat zc) else none
  | _, _ => none
theorem ms (P : Program) (t : TypeId) (l c : Int) : msV P t (.int .i64 l) (.int .i64 c) = msF (tSl P t) (tZ P (tSl P t)) l c := by
  simp only [msV, msF, tZ]
  cases tSl P t with
  | none => rfl
  | some q => obtain ⟨e, s, b⟩ := q; simp only; cases tZero P e <;> rfl
theorem msF_some {e s b : Nat} {l c : Int} {zc : List Value} (h : 0 ≤ l ∧ l ≤ c ∧ (b : Int) * c ≤ 281474976710656 ∧ c ≤ 9223372036854775807 ∧ zc.length = s ∧ s ≠ 0) : msF (some (e, s, b)) (some zc) l c = some (e, l.toNat, c.toNat, zrep c.toNat zc) := by simp [msF, h]
end
attribute [go_sem] get_cons put_some put_none keep_nil keepC_some keepC_none keep_cons get_nil ev_tmp ev_func ev_int ev_bool ev_str ev_nil ev_nils ev_glob arr_toList bind_some map_some look_lo look_hi wrap_i8 wrap_i64 wrap_u8 wrap_u64 tdiv_nn tmod_nn place_in ints_len ints_get ints_set ints_one sub_ints
attribute [go_sem] onV_some thenQ_normal thenQ_ret thenQ_exit blockQ_normal blockQ_ret blockQ_exit retQ_ret retQ_normal
attribute [go_sem] ap1_some ap2_some keepL_some storeL_some allocL_some boxL_some pickV_t pickV_f slV_some nilV_ptr un_neg un_xor un_not b_add b_sub b_mul b_and b_or b_xor b_quo b_rem b_eql b_neq b_lss b_leq b_gtr b_geq b_shl b_shr s_eql asB_some asNB_some e_ptr n_slice u_ptr0 u_ptr1 u_sl0 conv_int convI_some fldA fa_some part_f idxA ia_arr ia_sl idx ix_in extr len_u ln_str ln_sl rd aggO_some rd_cell rd_agg rd_ro wr wrT_c wrC_int wrC_bool wrC_slice cl_int cl_bool cl_str cl_ptr cl_sl cl_agg fnO_some evs_nil consO_some evs_cons res_nil res_tmp res_cell resOf_1 resOf_0 resOf_2 init_nil init_cons gd_o gdO_some d_lt1 d_lt0 d_le1 d_le0 d_eq1 d_eq0 get0 getS
attribute [go_sem] onP_some onGd_tt onGd_tf onGd_ft onGd_ff ops_nil ops_guard ops_call ops_len ops_load ops_store ops_alloc ops_box ops_move ops_assign ops_pick ops_nilCheck ops_bin ops_un ops_conv ops_faddr ops_iaddr ops_index ops_slice ops_extract c_cond onBc_true onBc_false c_skip c_exit c_ret c_draw c_region c_block c_loop
attribute [go_sem] ofV_some ofVL_some callR_some bdO_some q_load q_move q_assign q_pick q_nilCheck q_bin q_un q_conv q_faddr q_iaddr q_extract q_build q_call prtO_some pts_nil pts_cons newR_some bsO_some appR_some pi_nil pi_q pi_r piO_n piG_f piG_t
theorem cm_int (P : Program) (M : List AO) (s t : TypeId) (k : IntKind) (n : Int) : convM P M s t (.int k n) = convV P s t (.int k n) := rfl
attribute [go_sem] cm_int ops_copy ops_build ops_bslice ops_mslice ops_append bd bdF_a bdF_s fl_nil fl_cons spl_1 bs tZ_some mp4_some bsF_some ms msF_some
end Go.Tb
end
