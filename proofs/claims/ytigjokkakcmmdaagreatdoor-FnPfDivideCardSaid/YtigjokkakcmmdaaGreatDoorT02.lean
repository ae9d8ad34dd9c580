/-
  A part of the proof (my own): of the texts that the claim's last text rests on: parts Pure, Mem.
-/
import Derived.Test.YtigjokkakcmmdaaGreatDoorT01
set_option linter.unusedSimpArgs false
set_option linter.unusedVariables false
section
namespace Go.Tb
open Go
def unV (op : UnOp) (x : Value) : Option Value := match op, x with
  | .neg, .int k n => some (.int k (k.wrap (0 - n)))
  | .xor, .int k n => some (.int k (bnot k n))
  | .not, .bool b => some (.bool !b)
  | _, _ => none
def convV (P : Program) (src dst : TypeId) (x : Value) : Option Value := match x with
  | .int _ n => match tInt P dst with
    | some k => if (P.underlying src).isSome then some (.int k (k.wrap n)) else none
    | none => none
  | .string s => if tStr P dst && (P.underlying src).isSome then some (.string s) else none
  | _ => none
def ifaceV (P : Program) (t : TypeId) (x : Value) : Option Value := match P.underlying t with
  | some (.interface _) => none
  | some _ => some (.iface t x)
  | none => none
def fldAV (P : Program) (t : TypeId) (f : Nat) (x : Value) : Option Value := match x with
  | .pointer (some ⟨b, o, none⟩) => match tFld P t f with
    | some (off, _, _) => some (.pointer (some ⟨b, o + off, none⟩))
    | none => none
  | _ => none
def partV (agg : Bool) (s : Nat) (cs : List Value) (off : Nat) : Option Value :=
  if agg then some (.agg ((cs.drop off).take s).toArray) else cs[off]?
def fldV (P : Program) (t : TypeId) (f : Nat) (x : Value) : Option Value := match x with
  | .agg cs => match tFld P t f with
    | some (off, b, s) => partV b s cs.toList off
    | none => none
  | _ => none
def place (b o : Nat) (i : Int) (n s : Nat) : Option Value :=
  if 0 ≤ i ∧ i < (n : Int) then some (.pointer (some ⟨b, o + i.toNat * s, none⟩)) else none
def idxAV (P : Program) (t : TypeId) (x i : Value) : Option Value := match i with
  | .int _ j => match tElem P t, x with
    | some (some n, _, _, s), .pointer (some ⟨b, o, none⟩) => place b o j n s
    | some (none, _, _, s), .slice (some ⟨b, o, none⟩) n _ => place b o j n s
    | _, _ => none
  | _ => none
def byteV (s : ByteArray) (i : Int) : Option Value :=
  if 0 ≤ i then (s[i.toNat]?).map fun b => .int .u8 b.toNat else none
def idxV (P : Program) (t : TypeId) (x i : Value) : Option Value := match i with
  | .int _ j => match x with
    | .agg cs => match tElem P t with
      | some (some n, _, b, s) => if 0 ≤ j ∧ j < (n : Int) then partV b s cs.toList (j.toNat * s) else none
      | _ => none
    | .string s => if tStr P t then byteV s j else none
    | _ => none
  | _ => none
def bdV (x : Option (Option Value)) (d y : Nat) : Option Nat := match x with
  | none => some d
  | some (some (.int _ i)) => if 0 ≤ i ∧ i ≤ (y : Int) then some i.toNat else none
  | _ => none
def sliceV (P : Program) (t : TypeId) (x : Value) (lo hi : Option (Option Value)) : Option Value := match x with
  | .string s => if tStr P t then (bdV hi s.size s.size).bind fun h => (bdV lo 0 h).map fun l => .string (s.extract l h) else none
  | .slice (some ⟨b, o, none⟩) n c => match tElem P t with
    | some (none, _, _, s) => (bdV hi n c).bind fun h => (bdV lo 0 h).map fun l => .slice (some (if c = l then ⟨b, o, none⟩ else ⟨b, o + l * s, none⟩)) (h - l) (c - l)
    | _ => none
  | .slice none n c => match tElem P t with
    | some (none, _, _, s) => (bdV hi n c).bind fun h => (bdV lo 0 h).map fun l => .slice none (h - l) (c - l)
    | _ => none
  | .pointer (some ⟨b, o, none⟩) => match tElem P t with
    | some (some n, _, _, s) => (bdV hi n n).bind fun h => (bdV lo 0 h).map fun l => .slice (some (if n = l then ⟨b, o, none⟩ else ⟨b, o + l * s, none⟩)) (h - l) (n - l)
    | _ => none
  | _ => none
def extrV (x : Value) (i : Nat) : Option Value := match x with
  | .tuple vs => vs[i]?
  | _ => none
def lenV (P : Program) (t : TypeId) (x : Value) : Option Value := match P.underlying t, x with
  | some .string, .string s => some (.int .i64 s.size)
  | some (.array n _), _ => some (.int .i64 n)
  | some (.slice _), .slice _ n _ => some (.int .i64 n)
  | some (.map _ _), .map none => some (.int .i64 0)
  | _, _ => none
def capV (P : Program) (t : TypeId) (x : Value) : Option Value := match P.underlying t, x with
  | some (.slice _), .slice _ _ c => some (.int .i64 c)
  | _, _ => none
def nilV (x : Value) : Option Value := match x with
  | .pointer (some a) => some (.pointer (some a))
  | .iface t v => some (.iface t v)
  | .func (.func f) c d => some (.func (.func f) c d)
  | _ => none
def builtinV (P : Program) (ng : Nat) (fr : Fr) : Builtin → List Operand → List TypeId → Option Value
  | .len, [x], [t] => (evO ng fr x).bind (lenV P t)
  | .cap, [x], [t] => (evO ng fr x).bind (capV P t)
  | _, _, _ => none
noncomputable def pureV (P : Program) (ng : Nat) (fr : Fr) : Op → Option Value
  | .move x | .assign x => evO ng fr x
  | .pick c a b => match evO ng fr c with
    | some (.bool true) => evO ng fr a
    | some (.bool false) => evO ng fr b
    | _ => none
  | .nilCheck x => (evO ng fr x).bind nilV
  | .binOp op t x y _ => (evO ng fr x).bind fun a => (evO ng fr y).bind fun b => binV P op t a b
  | .unOp op _ x => (evO ng fr x).bind (unV op)
  | .convert s d x => (evO ng fr x).bind (convV P s d)
  | .makeInterface t x => (evO ng fr x).bind (ifaceV P t)
  | .makeFunc fn first captured => (evs ng fr first.toList).bind fun f => (evs ng fr captured.toList).map fun c => .func fn f.toArray c.toArray
  | .fieldAddr t x f => (evO ng fr x).bind (fldAV P t f)
  | .field t x f => (evO ng fr x).bind (fldV P t f)
  | .indexAddr t x i => (evO ng fr x).bind fun a => (evO ng fr i).bind fun b => idxAV P t a b
  | .index t x i => (evO ng fr x).bind fun a => (evO ng fr i).bind fun b => idxV P t a b
  | .slice t x lo hi none => (evO ng fr x).bind fun a => sliceV P t a (lo.map (evO ng fr)) (hi.map (evO ng fr))
  | .extract x i => (evO ng fr x).bind fun a => extrV a i
  | .call { callee := .builtin b, args, argTypes } => builtinV P ng fr b args.toList argTypes.toList
  | _ => none
section
variable {P : Program} {ng N : Nat} {D : List Deferred} {ρ : Nat → Nat} {L : List AO} {w : World} {fr : Fr} {a : Act}
theorem WF_ptr {n : Nat} {b o o' : Nat} (h : WF n (.pointer (some ⟨b, o, none⟩))) : WF n (.pointer (some ⟨b, o', none⟩)) := fun ρ ρ' e => by
  have := h ρ ρ' e; simp at this; simp [this]
theorem WF_slice_ptr {n : Nat} {b o o' l c : Nat} (h : WF n (.slice (some ⟨b, o, none⟩) l c)) : WF n (.pointer (some ⟨b, o', none⟩)) := fun ρ ρ' e => by
  have := h ρ ρ' e; simp at this; simp [this]
theorem WF_slice {n : Nat} {b o o' l c l' c' : Nat} (h : WF n (.slice (some ⟨b, o, none⟩) l c)) : WF n (.slice (some ⟨b, o', none⟩) l' c') := fun ρ ρ' e => by
  have := h ρ ρ' e; simp at this; simp [this]
theorem WF_ptr_slice {n : Nat} {b o o' l' c' : Nat} (h : WF n (.pointer (some ⟨b, o, none⟩))) : WF n (.slice (some ⟨b, o', none⟩) l' c') := fun ρ ρ' e => by
  have := h ρ ρ' e; simp at this; simp [this]
theorem WF_agg {n : Nat} {cs : Array Value} : WF n (.agg cs) ↔ ∀ v ∈ cs.toList, WF n v := by
  constructor
  · intro h v hv ρ ρ' e
    have := h ρ ρ' e
    simp only [rl_agg, Value.agg.injEq] at this
    have h2 : cs.toList.map (rl ρ) = cs.toList.map (rl ρ') := by simpa using congrArg Array.toList this
    exact List.map_inj_left.1 h2 v hv
  · intro h ρ ρ' e
    simp only [rl_agg, Value.agg.injEq]
    apply Array.toList_inj.1
    simp only [Array.toList_map]
    exact List.map_congr_left fun v hv => h v hv ρ ρ' e
theorem WF_tuple {n : Nat} {cs : Array Value} : WF n (.tuple cs) ↔ ∀ v ∈ cs.toList, WF n v := by
  constructor
  · intro h v hv ρ ρ' e
    have := h ρ ρ' e
    simp only [rl_tuple, Value.tuple.injEq] at this
    have h2 : cs.toList.map (rl ρ) = cs.toList.map (rl ρ') := by simpa using congrArg Array.toList this
    exact List.map_inj_left.1 h2 v hv
  · intro h ρ ρ' e
    simp only [rl_tuple, Value.tuple.injEq]
    apply Array.toList_inj.1
    simp only [Array.toList_map]
    exact List.map_congr_left fun v hv => h v hv ρ ρ' e
theorem WF_iface {n : Nat} {t : TypeId} {v : Value} (h : WF n v) : WF n (.iface t v) := fun ρ ρ' e => by simp [h ρ ρ' e]
theorem WF_func {n : Nat} {fn : Fn} {f c : List Value} (h : ∀ v ∈ f, WF n v) (h' : ∀ v ∈ c, WF n v) : WF n (.func fn f.toArray c.toArray) := fun ρ ρ' e => by
  simp only [rl_func, Value.func.injEq, true_and]
  constructor <;> (apply Array.toList_inj.1; simp only [Array.toList_map])
  · exact List.map_congr_left fun v hv => h v hv ρ ρ' e
  · exact List.map_congr_left fun v hv => h' v hv ρ ρ' e
theorem WF_int {n : Nat} {k : IntKind} {i : Int} : WF n (.int k i) := fun _ _ _ => by simp
theorem WF_bool {n : Nat} {b : Bool} : WF n (.bool b) := fun _ _ _ => by simp
theorem WF_str {n : Nat} {b : ByteArray} : WF n (.string b) := fun _ _ _ => by simp
theorem binI_plain {op : BinOp} {k : IntKind} {a b : Int} {v : Value} (h : binI op k a b = some v) : (∃ k n, v = .int k n) ∨ ∃ b, v = .bool b := by
  cases op <;> simp only [binI, Option.some.injEq] at h <;> first
    | (subst h; first | exact .inl ⟨_, _, rfl⟩ | exact .inr ⟨_, rfl⟩)
    | (split at h
       · cases h
       · simp only [Option.some.injEq] at h; subst h; exact .inl ⟨_, _, rfl⟩)
    | cases h
theorem binSh_plain {op : BinOp} {k : IntKind} {a b : Int} {v : Value} (h : binSh op k a b = some v) : (∃ k n, v = .int k n) := by
  cases op <;> simp only [binSh] at h <;> first
    | (split at h
       · cases h
       · simp only [Option.some.injEq] at h; subst h; exact ⟨_, _, rfl⟩)
    | cases h
theorem binS_plain {op : BinOp} {a b : ByteArray} {v : Value} (h : binS op a b = some v) : (∃ s, v = .string s) ∨ ∃ b, v = .bool b := by
  cases op <;> simp only [binS, Option.some.injEq] at h <;> first
    | (subst h; exact .inr ⟨_, rfl⟩)
    | (split at h
       · simp only [Option.some.injEq] at h; subst h; exact .inl ⟨_, rfl⟩
       · cases h)
    | cases h
theorem binV_else {op : BinOp} {t : TypeId} {x y v : Value} (h : binV P op t x y = some v) :
    (∃ k k' a b, x = .int k a ∧ y = .int k' b) ∨ (∃ a b, x = .string a ∧ y = .string b) ∨
    (∃ b, eqV P t x y = some b ∧ ((op = .eql ∧ v = .bool b) ∨ (op = .neq ∧ v = .bool !b))) := by
  unfold binV at h
  split at h
  · exact .inl ⟨_, _, _, _, rfl, rfl⟩
  · exact .inr (.inl ⟨_, _, rfl, rfl⟩)
  · refine .inr (.inr ?_)
    split at h
    · cases he : eqV P t x y with
      | none => simp [he] at h
      | some b => simp [he] at h; exact ⟨b, rfl, .inl ⟨rfl, h.symm⟩⟩
    · cases he : eqV P t x y with
      | none => simp [he] at h
      | some b => simp [he] at h; exact ⟨b, rfl, .inr ⟨rfl, h.symm⟩⟩
    · cases h
theorem eqV_shape {t : TypeId} {x y : Value} {b : Bool} (h : eqV P t x y = some b) :
    (∀ op : BinOp, op = .eql ∨ op = .neq → ∀ w, (binOp op t x y).run P w = (do let b ← Op.equal t x y; pure (Value.bool (if op = .eql then b else !b)) : Sem Value).run P w) ∧
    (∀ op a b w, (eqGuard op t a b x y).run P w = .ok () w) := by
  rcases eqV_or h with ⟨u, v, rfl, rfl, hq⟩ | h
  · constructor
    · intro op hop w
      rcases hop with rfl | rfl <;> simp [binOp]
    · intro op p q w
      have := (hq (fun i => i) w).2 op p q
      rwa [rl_id, rl_id] at this
  unfold eqV0 at h
  constructor
  · intro op hop w
    split at h <;> first | (simp only [reduceCtorEq] at h; done) | (rcases hop with rfl | rfl <;> simp [binOp])
  · intro op a' b' w
    split at h <;> first | (simp only [reduceCtorEq] at h; done) | (cases op <;> simp [eqGuard])
theorem eqGuard_int {op : BinOp} {t : TypeId} {x y : Operand} {k k' : IntKind} {a b : Int} (w : World) : (eqGuard op t x y (.int k a) (.int k' b)).run P w = .ok () w := by
  cases op <;> simp [eqGuard]
theorem eqGuard_str {op : BinOp} {t : TypeId} {x y : Operand} {a b : ByteArray} (w : World) : (eqGuard op t x y (.string a) (.string b)).run P w = .ok () w := by
  cases op <;> simp [eqGuard]
theorem binV_sound {op : BinOp} {t : TypeId} {x y v : Value} {p q : Operand} (h : binV P op t x y = some v) (w : World) :
    (do eqGuard op t p q (rl ρ x) (rl ρ y); binOp op t (rl ρ x) (rl ρ y) : Sem Value).run P w = .ok (rl ρ v) w ∧ ∀ n, WF n v := by
  rcases binV_else h with ⟨k, k', a, b, rfl, rfl⟩ | ⟨a, b, rfl, rfl⟩ | ⟨b, he, hv⟩
  · have hv : (∃ k n, v = .int k n) ∨ ∃ b, v = .bool b := by
      simp only [binV] at h
      split at h
      · exact .inl (binSh_plain h)
      · exact .inl (binSh_plain h)
      · split at h
        · exact binI_plain h
        · cases h
    refine ⟨?_, fun n => by rcases hv with ⟨_, _, rfl⟩ | ⟨_, rfl⟩; exact WF_int; exact WF_bool⟩
    have e : rl ρ v = v := by rcases hv with ⟨_, _, rfl⟩ | ⟨_, rfl⟩ <;> simp
    rw [e, rl_int, rl_int, Sem.run_bind, eqGuard_int, Result.andThen_ok]
    simp only [binV] at h
    split at h
    · exact run_binSh h w
    · exact run_binSh h w
    · rename_i h1 h2
      split at h
      · rename_i hk; subst hk
        exact run_binI ⟨h1, h2⟩ h w
      · cases h
  · have hv := binS_plain (v := v) (by simpa only [binV] using h)
    refine ⟨?_, fun n => by rcases hv with ⟨_, rfl⟩ | ⟨_, rfl⟩; exact WF_str; exact WF_bool⟩
    have e : rl ρ v = v := by rcases hv with ⟨_, rfl⟩ | ⟨_, rfl⟩ <;> simp
    rw [e, rl_string, rl_string, Sem.run_bind, eqGuard_str, Result.andThen_ok]
    exact run_binS (by simpa only [binV] using h) w
  · have he' := eqV_rl he ρ
    obtain ⟨h1, h2⟩ := eqV_shape he'
    rcases hv with ⟨rfl, rfl⟩ | ⟨rfl, rfl⟩
    · refine ⟨?_, fun n => WF_bool⟩
      rw [Sem.run_bind, h2, Result.andThen_ok, h1 _ (.inl rfl), Sem.run_bind, run_eqV he', Result.andThen_ok]
      simp
    · refine ⟨?_, fun n => WF_bool⟩
      rw [Sem.run_bind, h2, Result.andThen_ok, h1 _ (.inr rfl), Sem.run_bind, run_eqV he', Result.andThen_ok]
      simp
theorem run_tInt {t : TypeId} {k : IntKind} (h : tInt P t = some k) : P.underlying t = some (.int k) := by
  unfold tInt at h; split at h <;> simp_all
theorem run_tStr {t : TypeId} (h : tStr P t = true) : P.underlying t = some .string := by
  unfold tStr at h; split at h <;> simp_all
theorem unV_sound {op : UnOp} {x v : Value} (h : unV op x = some v) (w : World) : (Op.unary op (rl ρ x)).run P w = .ok (rl ρ v) w ∧ ∀ n, WF n v := by
  unfold unV at h
  split at h <;> simp only [Option.some.injEq, reduceCtorEq] at h <;> subst h
  · exact ⟨by simp [Op.unary, Op.intArith], fun _ => WF_int⟩
  · exact ⟨by simp [Op.unary, Op.intBits, bnot, bxor], fun _ => WF_int⟩
  · exact ⟨by simp [Op.unary], fun _ => WF_bool⟩
theorem convV_sound {s d : TypeId} {x v : Value} (h : convV P s d x = some v) (w : World) : (convert s d (rl ρ x)).run P w = .ok (rl ρ v) w ∧ ∀ n, WF n v := by
  unfold convV at h
  split at h
  · split at h
    · rename_i hk
      split at h
      · rename_i hs
        simp only [Option.some.injEq] at h; subst h
        obtain ⟨ds, hs⟩ := Option.isSome_iff_exists.1 hs
        refine ⟨?_, fun _ => WF_int⟩
        simp [convert, Conv.intToInt, run_underlying hs, run_underlying (run_tInt hk)]
      · cases h
    · cases h
  · split at h
    · rename_i hc
      simp only [Option.some.injEq] at h; subst h
      simp only [Bool.and_eq_true] at hc
      obtain ⟨ds, hs⟩ := Option.isSome_iff_exists.1 hc.2
      refine ⟨?_, fun _ => WF_str⟩
      simp [convert, run_underlying hs, run_underlying (run_tStr hc.1)]
    · cases h
  · cases h
theorem ifaceV_sound {t : TypeId} {x v : Value} (h : ifaceV P t x = some v) (w : World) : (Instr.makeInterface t (rl ρ x)).run P w = .ok (rl ρ v) w ∧ ∀ n, WF n x → WF n v := by
  unfold ifaceV at h
  split at h
  · cases h
  · rename_i d hd hu
    simp only [Option.some.injEq] at h; subst h
    refine ⟨?_, fun n hn => WF_iface hn⟩
    simp only [Instr.makeInterface, Sem.run_bind, run_underlying hu, Result.andThen_ok]
    cases d <;> simp_all
  · cases h
theorem tFld_spec {t : TypeId} {f off s : Nat} {b : Bool} (h : tFld P t f = some (off, b, s)) : ∃ fs x, P.underlying t = some (.struct fs) ∧ fs[f]? = some x ∧ x.offset = off ∧ tSz P x.type = some (b, s) ∧ s ≠ 0 := by
  unfold tFld at h
  split at h
  · rename_i fs hu
    split at h
    · rename_i x hx
      split at h
      · rename_i b' s' hz
        split at h
        · cases h
        · rename_i hne
          simp only [Option.some.injEq, Prod.mk.injEq] at h
          obtain ⟨rfl, rfl, rfl⟩ := h
          exact ⟨fs, x, hu, hx, rfl, hz, hne⟩
      · cases h
    · cases h
  · cases h
theorem fldAV_sound {t : TypeId} {f : Nat} {x v : Value} (h : fldAV P t f x = some v) (w : World) : (Instr.fieldAt t (rl ρ x) f).run P w = .ok (rl ρ v) w ∧ ∀ n, WF n x → WF n v := by
  unfold fldAV at h
  split at h
  · split at h
    · rename_i b o off ag s hf
      simp only [Option.some.injEq] at h; subst h
      obtain ⟨fs, x, hu, hx, rfl, hz, hne⟩ := tFld_spec hf
      refine ⟨?_, fun n hn => WF_ptr hn⟩
      simp [Instr.fieldAt, run_underlying hu, hx, Instr.sureAddr, fieldPlace, run_sizeOf hz, hne, Addr.add_mid]
    · cases h
  · cases h
theorem run_part {t : TypeId} {b : Bool} {s : Nat} (hz : tSz P t = some (b, s)) {cs : List Value} {off : Nat} {v : Value} (h : partV b s cs off = some v) (w : World) :
    (part t (cs.map (rl ρ)).toArray off).run P w = .ok (rl ρ v) w ∧ ∀ n, (∀ u ∈ cs, WF n u) → WF n v := by
  unfold partV at h
  split at h
  · rename_i hb; subst hb
    simp only [Option.some.injEq] at h; subst h
    refine ⟨?_, fun n hn => WF_agg.2 fun v hv => hn v (List.mem_of_mem_drop (List.mem_of_mem_take hv))⟩
    simp only [part, Sem.run_bind, run_isAgg hz, Result.andThen_ok, if_true, run_sizeOf hz, Sem.run_pure]
    congr 1
    rw [rl_agg]
    congr 1
    apply Array.toList_inj.1
    simp [Array.toList_extract, List.extract_eq_take_drop]
  · rename_i hb
    have hb : b = false := by simpa using hb
    subst hb
    refine ⟨?_, fun n hn => hn v (List.mem_of_getElem? h)⟩
    simp [part, run_isAgg hz, h]
theorem fldV_sound {t : TypeId} {f : Nat} {x v : Value} (h : fldV P t f x = some v) (w : World) : (Instr.field t (rl ρ x) f).run P w = .ok (rl ρ v) w ∧ ∀ n, WF n x → WF n v := by
  unfold fldV at h
  split at h
  · split at h
    · rename_i cs _ off b s hf
      obtain ⟨fs, x, hu, hx, rfl, hz, hne⟩ := tFld_spec hf
      obtain ⟨h1, h2⟩ := run_part (ρ := ρ) hz h w
      refine ⟨?_, fun n hn => h2 n (WF_agg.1 hn)⟩
      have e : (List.map (rl ρ) cs.toList).toArray = cs.map (rl ρ) := by apply Array.toList_inj.1; simp
      rw [e] at h1
      simp [Instr.field, run_underlying hu, hx, asAgg, h1]
    · cases h
  · cases h
theorem tElem_spec {t e : TypeId} {n : Option Nat} {b : Bool} {s : Nat} (h : tElem P t = some (n, e, b, s)) :
    tSz P e = some (b, s) ∧ ((∃ m, n = some m ∧ P.underlying t = some (.array m e)) ∨ (n = none ∧ P.underlying t = some (.slice e))) := by
  unfold tElem at h
  split at h
  · rename_i m e' hu
    cases hz : tSz P e' with
    | none => simp [hz] at h
    | some p =>
      obtain ⟨b', s'⟩ := p
      simp [hz] at h
      obtain ⟨rfl, rfl, rfl, rfl⟩ := h
      exact ⟨hz, .inl ⟨_, rfl, hu⟩⟩
  · rename_i e' hu
    cases hz : tSz P e' with
    | none => simp [hz] at h
    | some p =>
      obtain ⟨b', s'⟩ := p
      simp [hz] at h
      obtain ⟨rfl, rfl, rfl, rfl⟩ := h
      exact ⟨hz, .inr ⟨rfl, hu⟩⟩
  · cases h
theorem place_spec {b o n s : Nat} {i : Int} {v : Value} (h : place b o i n s = some v) : 0 ≤ i ∧ i < (n : Int) ∧ v = .pointer (some ⟨b, o + i.toNat * s, none⟩) := by
  unfold place at h
  split at h
  · rename_i hc; simp only [Option.some.injEq] at h; exact ⟨hc.1, hc.2, h.symm⟩
  · cases h
theorem idxAV_sound {t : TypeId} {x i v : Value} (h : idxAV P t x i = some v) (w : World) : (Instr.indexAt t (rl ρ x) (rl ρ i)).run P w = .ok (rl ρ v) w ∧ ∀ n, WF n x → WF n v := by
  unfold idxAV at h
  split at h
  · split at h
    · rename_i hf
      obtain ⟨h0, h1, rfl⟩ := place_spec h
      obtain ⟨hz, hu | hu⟩ := tElem_spec hf
      · obtain ⟨m, hm, hu⟩ := hu
        simp only [Option.some.injEq] at hm; subst hm
        refine ⟨?_, fun n hn => WF_ptr hn⟩
        simp [Instr.indexAt, asIntOf, run_underlying hu, Instr.sureAddr, run_sizeOf hz, h0, h1, Addr.add_mid]
      · cases hu.1
    · rename_i hf
      obtain ⟨h0, h1, rfl⟩ := place_spec h
      obtain ⟨hz, hu | hu⟩ := tElem_spec hf
      · obtain ⟨m, hm, hu⟩ := hu; cases hm
      · refine ⟨?_, fun n hn => WF_slice_ptr hn⟩
        simp [Instr.indexAt, asIntOf, run_underlying hu.2, Instr.sureAddr, run_sizeOf hz, h0, h1, Addr.add_mid]
    · cases h
  · cases h
theorem byteV_spec {s : ByteArray} {i : Int} {v : Value} (h : byteV s i = some v) : 0 ≤ i ∧ ∃ b, s[i.toNat]? = some b ∧ v = .int .u8 b.toNat := by
  unfold byteV at h
  split at h
  · rename_i h0
    cases hb : s[i.toNat]? with
    | none => simp [hb] at h
    | some b => simp [hb] at h; exact ⟨h0, b, rfl, h.symm⟩
  · cases h
theorem idxV_sound {t : TypeId} {x i v : Value} (h : idxV P t x i = some v) (w : World) : (Instr.index t (rl ρ x) (rl ρ i)).run P w = .ok (rl ρ v) w ∧ ∀ n, WF n x → WF n v := by
  unfold idxV at h
  split at h
  · split at h
    · split at h
      · rename_i cs _ _ _ _ _ hf
        split at h
        · rename_i hc
          obtain ⟨hz, hu | hu⟩ := tElem_spec hf
          · obtain ⟨m, hm, hu⟩ := hu
            simp only [Option.some.injEq] at hm; subst hm
            obtain ⟨h1, h2⟩ := run_part (ρ := ρ) hz h w
            refine ⟨?_, fun n hn => h2 n (WF_agg.1 hn)⟩
            have e : (List.map (rl ρ) cs.toList).toArray = cs.map (rl ρ) := by apply Array.toList_inj.1; simp
            rw [e] at h1
            simp [Instr.index, asIntOf, run_underlying hu, run_sizeOf hz, hc.1, hc.2, h1]
          · cases hu.1
        · cases h
      · cases h
    · split at h
      · rename_i hs
        obtain ⟨h0, b, hb, rfl⟩ := byteV_spec h
        refine ⟨?_, fun n _ => WF_int⟩
        simp [Instr.index, asIntOf, run_underlying (run_tStr hs), h0, hb]
      · cases h
    · cases h
  · cases h
theorem run_sliceBound {x : Value} {y : Nat} {i : Int} {k : IntKind} (hx : x = .int k i) (h0 : 0 ≤ i) (h1 : i ≤ (y : Int)) (c : BoundsCode) (w : World) : (Instr.sliceBound x y c).run P w = .ok i.toNat w := by
  subst hx
  simp [Instr.sliceBound, asIntOf, h0, h1]
theorem bdV_spec {x : Option (Option Value)} {d y m : Nat} (h : bdV x d y = some m) : (x = none ∧ m = d) ∨ ∃ k i, x = some (some (.int k i)) ∧ 0 ≤ i ∧ i ≤ (y : Int) ∧ m = i.toNat := by
  unfold bdV at h
  split at h
  · simp only [Option.some.injEq] at h; exact .inl ⟨rfl, h.symm⟩
  · split at h
    · rename_i hc; simp only [Option.some.injEq] at h; exact .inr ⟨_, _, rfl, hc.1, hc.2, h.symm⟩
    · cases h
  · cases h
theorem run_sliceBounds {b : Bool} {n c h l : Nat} {lo hi : Option (Option Value)} (hh : bdV hi n c = some h) (hl : bdV lo 0 h = some l) (w : World) :
    (Instr.sliceBounds b n c (lo.map fun v => rl ρ (v.getD undef)) (hi.map fun v => rl ρ (v.getD undef)) none).run P w = .ok (l, h, c) w := by
  rcases bdV_spec hh with ⟨rfl, rfl⟩ | ⟨k, i, rfl, h0, h1, rfl⟩ <;> rcases bdV_spec hl with ⟨rfl, rfl⟩ | ⟨k', i', rfl, h0', h1', rfl⟩ <;>
    simp only [Instr.sliceBounds, Option.map_none, Option.map_some, Option.getD_some, rl_int, Sem.run_bind, Sem.run_pure, Result.andThen_ok]
  · rw [run_sliceBound rfl h0' h1']; rfl
  · rw [run_sliceBound rfl h0 h1]; rfl
  · rw [run_sliceBound rfl h0 h1]; simp only [Result.andThen_ok]; rw [run_sliceBound rfl h0' h1']; rfl
theorem sliceV_sound {t : TypeId} {x v : Value} {lo hi : Option (Option Value)} (h : sliceV P t x lo hi = some v) (w : World) :
    (Instr.sliceAt t (rl ρ x) (lo.map fun v => rl ρ (v.getD undef)) (hi.map fun v => rl ρ (v.getD undef)) none).run P w = .ok (rl ρ v) w ∧ ∀ n, WF n x → WF n v := by
  unfold sliceV at h
  split at h
  · split at h
    · rename_i s hs
      cases hh : bdV hi s.size s.size with
      | none => simp [hh] at h
      | some m =>
        cases hl : bdV lo 0 m with
        | none => simp [hh, hl] at h
        | some l =>
          simp [hh, hl] at h; subst h
          refine ⟨?_, fun n _ => WF_str⟩
          simp [Instr.sliceAt, Instr.slice, run_underlying (run_tStr hs), run_sliceBounds hh hl]
    · cases h
  · split at h
    · rename_i b o n c _ _ _ s hf
      obtain ⟨hz, hu | hu⟩ := tElem_spec hf
      · obtain ⟨m, hm, hu⟩ := hu; cases hm
      · cases hh : bdV hi n c with
        | none => simp [hh] at h
        | some m =>
          cases hl : bdV lo 0 m with
          | none => simp [hh, hl] at h
          | some l =>
            simp [hh, hl] at h; subst h
            refine ⟨?_, fun n hn => by split <;> exact WF_slice hn⟩
            simp [Instr.sliceAt, Instr.slice, run_underlying hu.2, run_sliceBounds hh hl, run_sizeOf hz]
            split <;> simp [Addr.add_mid]
    · cases h
  · split at h
    · rename_i n c _ _ _ s hf
      obtain ⟨hz, hu | hu⟩ := tElem_spec hf
      · obtain ⟨m, hm, hu⟩ := hu; cases hm
      · cases hh : bdV hi n c with
        | none => simp [hh] at h
        | some m =>
          cases hl : bdV lo 0 m with
          | none => simp [hh, hl] at h
          | some l =>
            simp [hh, hl] at h; subst h
            refine ⟨?_, fun n hn => fun _ _ _ => by simp⟩
            simp [Instr.sliceAt, Instr.slice, run_underlying hu.2, run_sliceBounds hh hl, run_sizeOf hz]
    · cases h
  · split at h
    · rename_i b o n _ _ s hf
      obtain ⟨hz, hu | hu⟩ := tElem_spec hf
      · obtain ⟨m, hm, hu⟩ := hu
        simp only [Option.some.injEq] at hm; subst hm
        cases hh : bdV hi n n with
        | none => simp [hh] at h
        | some m =>
          cases hl : bdV lo 0 m with
          | none => simp [hh, hl] at h
          | some l =>
            simp [hh, hl] at h; subst h
            refine ⟨?_, fun n hn => by split <;> exact WF_ptr_slice hn⟩
            simp [Instr.sliceAt, run_underlying hu, Instr.sureAddr, run_sliceBounds hh hl, run_sizeOf hz]
            split <;> simp [Addr.add_mid]
      · cases hu.1
    · cases h
  · cases h
theorem extrV_sound {x v : Value} {i : Nat} (h : extrV x i = some v) (w : World) : (Instr.extract (rl ρ x) i).run P w = .ok (rl ρ v) w ∧ ∀ n, WF n x → WF n v := by
  unfold extrV at h
  split at h
  · rename_i vs
    refine ⟨by simp [Instr.extract, h], fun n hn => ?_⟩
    refine WF_tuple.1 hn _ ?_
    rw [← Array.getElem?_toList] at h
    exact List.mem_of_getElem? h
  · cases h
theorem lenV_sound {t ty : TypeId} {x v : Value} (h : lenV P t x = some v) (w : World) : (Builtin.len_ #[t] ty #[rl ρ x]).run P w = .ok (rl ρ v) w ∧ ∀ n, WF n v := by
  unfold lenV at h
  split at h <;> simp only [Option.some.injEq, reduceCtorEq] at h <;> subst h <;> rename_i hu <;> refine ⟨?_, fun _ => WF_int⟩
  · simp [Builtin.len_, run_underlying hu, goInt]
  · simp [Builtin.len_, run_underlying hu, goInt]
  · rename_i b _ _; cases b <;> simp [Builtin.len_, run_underlying hu, goInt]
  · simp [Builtin.len_, run_underlying hu, goInt]
theorem capV_sound {t ty : TypeId} {x v : Value} (h : capV P t x = some v) (w : World) : (Builtin.cap_ #[t] ty #[rl ρ x]).run P w = .ok (rl ρ v) w ∧ ∀ n, WF n v := by
  unfold capV at h
  split at h <;> simp only [Option.some.injEq, reduceCtorEq] at h <;> subst h <;> rename_i hu <;> refine ⟨?_, fun _ => WF_int⟩
  · rename_i b _ _; cases b <;> simp [Builtin.cap_, run_underlying hu, goInt]
theorem evO_eval (hs : Sim ng ρ L w) (hf : FRel N D ρ L.length fr a) (x : Operand) {v : Value} (h : evO ng fr x = some v) : a.eval x = rl ρ v := (evO_sound hs hf h).1
theorem opt_evO {x : Option Operand} (hs : Sim ng ρ L w) (hf : FRel N D ρ L.length fr a) (h : ∀ v, x.map (evO ng fr) = some v → v ≠ none) : x.map a.eval = (x.map (evO ng fr)).map fun v => rl ρ (v.getD undef) := by
  cases x with
  | none => rfl
  | some o =>
    cases hv : evO ng fr o with
    | none => exact absurd (h none (by simp [hv])) (by simp)
    | some v => simp [hv, evO_eval hs hf o hv]
theorem bdV_ne {x : Option (Option Value)} {d y m : Nat} (h : bdV x d y = some m) : ∀ v, x = some v → v ≠ none := by
  intro v hv hn
  subst hv; subst hn
  simp [bdV] at h
theorem sliceV_ne {t : TypeId} {x v : Value} {lo hi : Option (Option Value)} (h : sliceV P t x lo hi = some v) : (∀ v, lo = some v → v ≠ none) ∧ (∀ v, hi = some v → v ≠ none) := by
  have key : ∀ n c : Nat, ∀ (f : Nat → Nat → Value), ((bdV hi n c).bind fun h => (bdV lo 0 h).map fun l => f h l) = some v → (∀ v, lo = some v → v ≠ none) ∧ (∀ v, hi = some v → v ≠ none) := by
    intro n c f hk
    cases hh : bdV hi n c with
    | none => simp [hh] at hk
    | some m =>
      cases hl : bdV lo 0 m with
      | none => simp [hh, hl] at hk
      | some l => exact ⟨bdV_ne hl, bdV_ne hh⟩
  unfold sliceV at h
  split at h
  · split at h
    · exact key _ _ _ h
    · cases h
  · split at h
    · exact key _ _ _ h
    · cases h
  · split at h
    · exact key _ _ _ h
    · cases h
  · split at h
    · exact key _ _ _ h
    · cases h
  · cases h
theorem pureV_sound {o : Oper} {v : Value} (h : pureV P ng fr o.op = some v) (hs : Sim ng ρ L w) (hf : FRel N D ρ L.length fr a) :
    (∀ w, (execOp a.eval o).run P w = .ok (.value (rl ρ v)) w) ∧ WF L.length v := by
  obtain ⟨dst, op, type, pos, after, guard⟩ := o
  have ev : ∀ {x : Operand} {v : Value}, evO ng fr x = some v → a.eval x = rl ρ v ∧ WF L.length v := fun h => evO_sound hs hf h
  simp only at h
  unfold pureV at h
  split at h
  · obtain ⟨e, hw⟩ := ev h; exact ⟨fun w => by simp [execOp, e], hw⟩
  · obtain ⟨e, hw⟩ := ev h; exact ⟨fun w => by simp [execOp, e], hw⟩
  · split at h
    · rename_i hc; obtain ⟨e, hw⟩ := ev h; obtain ⟨ec, _⟩ := ev hc
      exact ⟨fun w => by simp [execOp, e, ec, asBool], hw⟩
    · rename_i hc; obtain ⟨e, hw⟩ := ev h; obtain ⟨ec, _⟩ := ev hc
      exact ⟨fun w => by simp [execOp, e, ec, asBool], hw⟩
    · cases h
  · rename_i x
    cases hx : evO ng fr x with
    | none => simp [hx] at h
    | some u =>
      simp only [hx, Option.bind_some] at h
      obtain ⟨e, hw⟩ := ev hx
      unfold nilV at h
      split at h <;> simp only [Option.some.injEq, reduceCtorEq] at h <;> subst h <;> exact ⟨fun w => by simp [execOp, e], hw⟩
  · rename_i op t x y _
    cases hx : evO ng fr x with
    | none => simp [hx] at h
    | some u =>
      cases hy : evO ng fr y with
      | none => simp [hx, hy] at h
      | some u' =>
        simp only [hx, hy, Option.bind_some] at h
        obtain ⟨e, hw⟩ := ev hx
        obtain ⟨e', hw'⟩ := ev hy
        refine ⟨fun w => ?_, (binV_sound (ρ := ρ) (p := x) (q := y) h w).2 _⟩
        have := (binV_sound (ρ := ρ) (p := x) (q := y) h w).1
        simp only [execOp, e, e', Sem.run_bind, this, Result.andThen_ok, Sem.run_pure] at this ⊢
  · rename_i op _ x
    cases hx : evO ng fr x with
    | none => simp [hx] at h
    | some u =>
      simp only [hx, Option.bind_some] at h
      obtain ⟨e, hw⟩ := ev hx
      exact ⟨fun w => by simp [execOp, e, (unV_sound (P := P) (ρ := ρ) h w).1], (unV_sound (P := P) (ρ := ρ) h w).2 _⟩
  · rename_i s d x
    cases hx : evO ng fr x with
    | none => simp [hx] at h
    | some u =>
      simp only [hx, Option.bind_some] at h
      obtain ⟨e, hw⟩ := ev hx
      exact ⟨fun w => by simp [execOp, e, (convV_sound (ρ := ρ) h w).1], (convV_sound (ρ := ρ) h w).2 _⟩
  · rename_i t x
    cases hx : evO ng fr x with
    | none => simp [hx] at h
    | some u =>
      simp only [hx, Option.bind_some] at h
      obtain ⟨e, hw⟩ := ev hx
      exact ⟨fun w => by simp [execOp, e, (ifaceV_sound (ρ := ρ) h w).1], (ifaceV_sound (ρ := ρ) h w).2 _ hw⟩
  · rename_i fn f c
    cases hx : evs ng fr f.toList with
    | none => simp [hx] at h
    | some u =>
      cases hy : evs ng fr c.toList with
      | none => simp [hx, hy] at h
      | some u' =>
        simp only [hx, hy, Option.bind_some, Option.map_some, Option.some.injEq] at h
        subst h
        obtain ⟨e, hw⟩ := evs_sound hs hf hx
        obtain ⟨e', hw'⟩ := evs_sound hs hf hy
        refine ⟨fun w => ?_, WF_func hw hw'⟩
        have e1 : f.map a.eval = u.toArray.map (rl ρ) := by apply Array.toList_inj.1; simpa using e
        have e2 : c.map a.eval = u'.toArray.map (rl ρ) := by apply Array.toList_inj.1; simpa using e'
        simp [execOp, Instr.makeFunc, e1, e2]
  · rename_i t x f
    cases hx : evO ng fr x with
    | none => simp [hx] at h
    | some u =>
      simp only [hx, Option.bind_some] at h
      obtain ⟨e, hw⟩ := ev hx
      exact ⟨fun w => by simp [execOp, e, (fldAV_sound (ρ := ρ) h w).1], (fldAV_sound (ρ := ρ) h w).2 _ hw⟩
  · rename_i t x f
    cases hx : evO ng fr x with
    | none => simp [hx] at h
    | some u =>
      simp only [hx, Option.bind_some] at h
      obtain ⟨e, hw⟩ := ev hx
      exact ⟨fun w => by simp [execOp, e, (fldV_sound (ρ := ρ) h w).1], (fldV_sound (ρ := ρ) h w).2 _ hw⟩
  · rename_i t x i
    cases hx : evO ng fr x with
    | none => simp [hx] at h
    | some u =>
      cases hy : evO ng fr i with
      | none => simp [hx, hy] at h
      | some u' =>
        simp only [hx, hy, Option.bind_some] at h
        obtain ⟨e, hw⟩ := ev hx
        obtain ⟨e', hw'⟩ := ev hy
        exact ⟨fun w => by simp [execOp, e, e', (idxAV_sound (ρ := ρ) h w).1], (idxAV_sound (ρ := ρ) h w).2 _ hw⟩
  · rename_i t x i
    cases hx : evO ng fr x with
    | none => simp [hx] at h
    | some u =>
      cases hy : evO ng fr i with
      | none => simp [hx, hy] at h
      | some u' =>
        simp only [hx, hy, Option.bind_some] at h
        obtain ⟨e, hw⟩ := ev hx
        obtain ⟨e', hw'⟩ := ev hy
        exact ⟨fun w => by simp [execOp, e, e', (idxV_sound (ρ := ρ) h w).1], (idxV_sound (ρ := ρ) h w).2 _ hw⟩
  · rename_i t x lo hi
    cases hx : evO ng fr x with
    | none => simp [hx] at h
    | some u =>
      simp only [hx, Option.bind_some] at h
      obtain ⟨e, hw⟩ := ev hx
      obtain ⟨h1, h2⟩ := sliceV_ne h
      refine ⟨fun w => ?_, (sliceV_sound (ρ := ρ) h w).2 _ hw⟩
      have := (sliceV_sound (ρ := ρ) h w).1
      rw [← opt_evO hs hf h1, ← opt_evO hs hf h2] at this
      simp [execOp, e, this]
  · rename_i x i
    cases hx : evO ng fr x with
    | none => simp [hx] at h
    | some u =>
      simp only [hx, Option.bind_some] at h
      obtain ⟨e, hw⟩ := ev hx
      exact ⟨fun w => by simp [execOp, e, (extrV_sound (P := P) (ρ := ρ) h w).1], (extrV_sound (P := P) (ρ := ρ) h w).2 _ hw⟩
  · rename_i b args argTypes
    unfold builtinV at h
    split at h
    · rename_i x t ha ht
      obtain rfl : args = #[x] := Array.toList_inj.1 ha
      obtain rfl : argTypes = #[t] := Array.toList_inj.1 ht
      cases hx : evO ng fr x with
      | none => simp [hx] at h
      | some u =>
        simp only [hx, Option.bind_some] at h
        obtain ⟨e, hw⟩ := ev hx
        exact ⟨fun w => by simp [execOp, resolve, invoke, builtin, e, (lenV_sound (ρ := ρ) h w).1], (lenV_sound (ρ := ρ) (ty := 0) h w).2 _⟩
    · rename_i x t ha ht
      obtain rfl : args = #[x] := Array.toList_inj.1 ha
      obtain rfl : argTypes = #[t] := Array.toList_inj.1 ht
      cases hx : evO ng fr x with
      | none => simp [hx] at h
      | some u =>
        simp only [hx, Option.bind_some] at h
        obtain ⟨e, hw⟩ := ev hx
        exact ⟨fun w => by simp [execOp, resolve, invoke, builtin, e, (capV_sound (ρ := ρ) h w).1], (capV_sound (ρ := ρ) (ty := 0) h w).2 _⟩
    · cases h
  · cases h
end
end Go.Tb
end
section
namespace Go.Tb
open Go
def sub (c : List Value) (o s : Nat) : Option (List Value) := if o + s ≤ c.length then some ((c.drop o).take s) else none
def rd1 (L : List AO) (b o : Nat) : Option Value := match L[b]? with
  | some (.cells c _) => c[o]?
  | some (.ro z c) => if z ≤ o then c[o - z]? else none
  | _ => none
def rdS (L : List AO) (b o s : Nat) : Option (List Value) := match L[b]? with
  | some (.cells c _) => sub c o s
  | some (.ro z c) => if z ≤ o then sub c (o - z) s else none
  | _ => none
def rdM (P : Program) (L : List AO) (t : TypeId) (p : Value) : Option Value := match p with
  | .pointer (some ⟨b, o, none⟩) => match tSz P t with
    | some (true, s) => (rdS L b o s).map fun cs => .agg cs.toArray
    | some (false, _) => rd1 L b o
    | none => none
  | _ => none
def cellsL (v : Value) : List Value := match v with
  | .agg cs => cs.toList
  | v => [v]
def one : Value → Bool
  | .agg _ | .tuple _ => false
  | _ => true
def spl (c : List Value) (o : Nat) (vs : List Value) : List Value := match vs with
  | [v] => c.set o v
  | vs => c.take o ++ vs ++ c.drop (o + vs.length)
def wrM (P : Program) (L : List AO) (t : TypeId) (p v : Value) : Option (List AO) := match p with
  | .pointer (some ⟨b, o, none⟩) => match tSz P t with
    | some (_, s) => match L[b]? with
      | some (.cells c T) => if (cellsL v).length = s ∧ (cellsL v).all one = true ∧ o + s ≤ c.length then some (L.set b (.cells (spl c o (cellsL v)) T)) else none
      | _ => none
    | none => none
  | _ => none
section
variable {P : Program} {ng N : Nat} {D : List Deferred} {ρ : Nat → Nat} {L : List AO} {w : World} {fr : Fr} {a : Act}
theorem spl_eq {c : List Value} {o : Nat} {vs : List Value} (h : o + vs.length ≤ c.length) : spl c o vs = c.take o ++ vs ++ c.drop (o + vs.length) := by
  unfold spl
  split
  · rename_i v
    simp only [List.length_cons, List.length_nil] at h
    rw [List.set_eq_take_append_cons_drop, if_pos (by omega)]
    simp
  · rfl
theorem spl_map (f : Value → Value) {c : List Value} {o : Nat} {vs : List Value} (h : o + vs.length ≤ c.length) : (spl c o vs).map f = spl (c.map f) o (vs.map f) := by
  rw [spl_eq h, spl_eq (by simpa using h)]; simp
theorem cell_of_cells {b : Nat} {c : List Value} {T : TypeId} {fr : Nat × Nat} (h : w.heap[b]? = some (.cells c.toArray T fr)) (o : Nat) : w.cell? ⟨b, o, none⟩ = c[o]? := by
  simp [World.cell?, h]
theorem rd1_sound {b o : Nat} {v : Value} (hs : Sim ng ρ L w) (h : rd1 L b o = some v) : w.cell? ⟨ρ b, o, none⟩ = some (rl ρ v) ∧ WF L.length v := by
  unfold rd1 at h
  split at h
  · rename_i c T hc
    obtain ⟨h1, h2⟩ := hs.cells b c T hc
    exact ⟨by rw [cell_of_cells h1]; simp [h], h2 v (List.mem_of_getElem? h)⟩
  · rename_i z c hc
    obtain ⟨h1, h2⟩ := hs.ro b z c hc
    split at h
    · rename_i hz
      refine ⟨?_, h2 v (List.mem_of_getElem? h)⟩
      have := h1 _ _ h
      rwa [show z + (o - z) = o by omega] at this
    · cases h
  · cases h
theorem sub_spec {c cs : List Value} {o s : Nat} (h : sub c o s = some cs) : o + s ≤ c.length ∧ cs = (c.drop o).take s := by
  unfold sub at h
  split at h
  · rename_i hc; simp only [Option.some.injEq] at h; exact ⟨hc, h.symm⟩
  · cases h
theorem rdS_sound {b o s : Nat} {cs : List Value} (hs : Sim ng ρ L w) (h : rdS L b o s = some cs) : w.rangeAt (ρ b) o (cs.map (rl ρ)) ∧ cs.length = s ∧ ∀ v ∈ cs, WF L.length v := by
  unfold rdS at h
  split at h
  · rename_i c T hc
    obtain ⟨h1, h2⟩ := hs.cells b c T hc
    obtain ⟨h3, rfl⟩ := sub_spec h
    refine ⟨fun j v hv => ?_, by simp; omega, fun v hv => h2 v (List.mem_of_mem_drop (List.mem_of_mem_take hv))⟩
    rw [cell_of_cells h1]
    simp only [List.map_take, List.map_drop] at hv
    rw [List.getElem?_take] at hv
    split at hv
    · rw [List.getElem?_drop] at hv; exact hv
    · cases hv
  · rename_i z c hc
    obtain ⟨h1, h2⟩ := hs.ro b z c hc
    split at h
    · rename_i hz
      obtain ⟨h3, rfl⟩ := sub_spec h
      refine ⟨fun j v hv => ?_, by simp; omega, fun v hv => h2 v (List.mem_of_mem_drop (List.mem_of_mem_take hv))⟩
      simp only [List.map_take, List.map_drop] at hv
      rw [List.getElem?_take] at hv
      split at hv
      · rw [List.getElem?_drop, List.getElem?_map] at hv
        cases hj : c[o - z + j]? with
        | none => simp [hj] at hv
        | some u =>
          simp [hj] at hv; subst hv
          have := h1 _ _ hj
          rwa [show z + (o - z + j) = o + j by omega] at this
      · cases hv
    · cases h
  · cases h
theorem tSz_agg {t : TypeId} {s : Nat} (h : tSz P t = some (true, s)) : ∃ d, P.underlying t = some d ∧ d.isRow = true ∧ (P.info? t).map (·.size) = some s := by
  unfold tSz at h
  split at h <;> simp_all
theorem rdM_sound {t : TypeId} {p v : Value} (hs : Sim ng ρ L w) (h : rdM P L t p = some v) : (Instr.loadAt t (rl ρ p)).run P w = .ok (rl ρ v) w ∧ WF L.length v := by
  unfold rdM at h
  split at h
  · rename_i b o
    split at h
    · rename_i s hz
      cases hc : rdS L b o s with
      | none => simp [hc] at h
      | some cs =>
        simp [hc] at h; subst h
        obtain ⟨h1, h2, h3⟩ := rdS_sound hs hc
        obtain ⟨d, hu, hd, hi⟩ := tSz_agg hz
        refine ⟨?_, WF_agg.2 (by simpa using h3)⟩
        have := run_loadAt_mid w (ρ b) o t (cs.map (rl ρ)) d h1 hu hd (by rw [hi]; simp [h2])
        simpa using this
    · rename_i s hz
      obtain ⟨h1, h2⟩ := rd1_sound hs h
      refine ⟨?_, h2⟩
      simp [Instr.loadAt, Instr.sureAddr, loadVar, run_isAgg hz, load, Sem.run, h1]
    · cases h
  · cases h
def setBlk (w : World) (b : Nat) (o : Obj) : World := { w with heap := w.heap.setIfInBounds b o }
theorem setBlk_same {b : Nat} {o : Obj} (h : b < w.heap.size) : (setBlk w b o).heap[b]? = some o := by
  simp [setBlk, h]
theorem setBlk_ne {b c : Nat} {o : Obj} (h : b ≠ c) : (setBlk w b o).heap[c]? = w.heap[c]? := by
  simp only [setBlk]; exact Array.getElem?_setIfInBounds_ne h
theorem setBlk_size {b : Nat} {o : Obj} : (setBlk w b o).heap.size = w.heap.size := by simp [setBlk]
theorem setBlk_setBlk {b : Nat} {o o' : Obj} : setBlk (setBlk w b o) b o' = setBlk w b o' := by
  simp [setBlk, Array.setIfInBounds_setIfInBounds]
theorem setCell_blk {b o : Nat} {c : List Value} {T : TypeId} (h : w.heap[b]? = some (.cells c.toArray T (0, 0))) (v : Value) :
    w.setCell ⟨b, o, none⟩ v = setBlk w b (.cells (c.set o v).toArray T (0, 0)) := by
  have hb : b < w.heap.size := (Array.getElem?_eq_some_iff.1 h).1
  unfold World.setCell setBlk
  congr 1
  apply Array.ext_getElem?
  intro i
  rw [Array.getElem?_modify]
  by_cases hi : b = i
  · subst hi
    rw [if_pos rfl, h, Array.getElem?_setIfInBounds_self_of_lt hb]
    simp
  · rw [if_neg hi, Array.getElem?_setIfInBounds_ne hi]
theorem splice_step {α : Type} {c : List α} {n : Nat} {v : α} {vs : List α} (h : n < c.length) :
    (c.set n v).take (n + 1) ++ vs ++ (c.set n v).drop (n + 1 + vs.length) = c.take n ++ (v :: vs) ++ c.drop (n + (vs.length + 1)) := by
  have h1 : (c.set n v).take (n + 1) = c.take n ++ [v] := by
    rw [List.set_eq_take_append_cons_drop, if_pos h, List.take_append]
    have hl : (c.take n).length = n := by simp; omega
    rw [hl, List.take_of_length_le (by omega), show n + 1 - n = 1 by omega]; simp
  have h2 : (c.set n v).drop (n + 1 + vs.length) = c.drop (n + 1 + vs.length) := by
    rw [List.drop_set_of_lt (by omega)]
  rw [h1, h2, show n + (vs.length + 1) = n + 1 + vs.length by omega]; simp
theorem run_store1 {b o : Nat} {c : List Value} {T : TypeId} {v : Value} (h : w.heap[b]? = some (.cells c.toArray T (0, 0))) (h1 : one v = true) (hlt : o < c.length) :
    (store ⟨b, o, none⟩ v).run P w = .ok () (setBlk w b (.cells (c.set o v).toArray T (0, 0))) := by
  have hcell : w.cell? ⟨b, o, none⟩ = some c[o] := by rw [cell_of_cells h]; simp [hlt]
  have hfz : w.frozen? ⟨b, o, none⟩ = false := by simp [World.frozen?, h]
  rw [← setCell_blk h v]
  cases v <;> first | (simp only [one, Bool.false_eq_true] at h1; done) | (simp only [store, Sem.run, hcell, hfz]; rfl)
theorem run_storeCells {b : Nat} {T : TypeId} : ∀ (vs : List Value) (c : List Value) (o i : Nat) (w : World), w.heap[b]? = some (.cells c.toArray T (0, 0)) → vs.all one = true → o + i + vs.length ≤ c.length →
    (storeCells ⟨b, o, none⟩ vs i).run P w = .ok () (setBlk w b (.cells (c.take (o + i) ++ vs ++ c.drop (o + i + vs.length)).toArray T (0, 0)))
  | [], c, o, i, w, h, _, _ => by
    have hb : b < w.heap.size := (Array.getElem?_eq_some_iff.1 h).1
    have e : setBlk w b (.cells c.toArray T (0, 0)) = w := by
      unfold setBlk
      have : w.heap.setIfInBounds b (.cells c.toArray T (0, 0)) = w.heap := by
        apply Array.ext_getElem?
        intro j
        by_cases hj : b = j
        · subst hj; rw [Array.getElem?_setIfInBounds_self_of_lt hb, h]
        · rw [Array.getElem?_setIfInBounds_ne hj]
      rw [this]
    simp only [storeCells, Sem.run_pure, List.append_nil, List.length_nil, Nat.add_zero, List.take_append_drop, e]
  | v :: vs, c, o, i, w, h, h1, hl => by
    simp only [List.all_cons, Bool.and_eq_true, List.length_cons] at h1 hl
    have hlt : o + i < c.length := by omega
    have hb : b < w.heap.size := (Array.getElem?_eq_some_iff.1 h).1
    have ih := run_storeCells vs (c.set (o + i) v) o (i + 1) (setBlk w b (.cells (c.set (o + i) v).toArray T (0, 0))) (setBlk_same hb) h1.2 (by simp; omega)
    rw [setBlk_setBlk, show o + (i + 1) = o + i + 1 by omega, splice_step hlt] at ih
    simp only [storeCells, Sem.run_bind, Addr.add_mid, run_store1 h h1.1 hlt, Result.andThen_ok, ih, List.length_cons]
theorem sim_set {b : Nat} {c c' : List Value} {T T' : TypeId} (hs : Sim ng ρ L w) (hb : L[b]? = some (.cells c T)) (hw : ∀ v ∈ c', WF L.length v) :
    Sim ng ρ (L.set b (.cells c' T')) (setBlk w (ρ b) (.cells (c'.map (rl ρ)).toArray T' (0, 0))) := by
  have hbl : b < L.length := (List.getElem?_eq_some_iff.1 hb).1
  have hlt := hs.lt b hbl
  have hne : ∀ i, i < L.length → i ≠ b → ρ b ≠ ρ i := fun i hi hib e => hib (hs.inj b i _ hb rfl hi e).symm
  have hget : ∀ i (o : AO), (L.set b (.cells c' T'))[i]? = some o → (i = b ∧ o = .cells c' T') ∨ (i ≠ b ∧ L[i]? = some o) := fun i o h => by
    rw [List.getElem?_set] at h
    split at h
    · rename_i e; subst e
      simp only [hbl, if_true, Option.some.injEq] at h
      exact .inl ⟨rfl, h.symm⟩
    · rename_i e; exact .inr ⟨fun e' => e e'.symm, h⟩
  refine ⟨by simpa using hs.ngl, hs.glob, ?_, ?_, ?_, ?_, ?_⟩
  · intro i j o h hw' hj e
    simp only [List.length_set] at hj
    rcases hget i o h with ⟨rfl, rfl⟩ | ⟨hi, h⟩
    · exact hs.inj i j _ hb rfl hj e
    · exact hs.inj i j o h hw' hj e
  · intro i hi
    rw [setBlk_size]
    exact hs.lt i (by simpa using hi)
  · intro i d S h
    simp only [List.length_set]
    rcases hget i _ h with ⟨rfl, e⟩ | ⟨hi, h⟩
    · simp only [AO.cells.injEq] at e
      obtain ⟨rfl, rfl⟩ := e
      exact ⟨setBlk_same hlt, hw⟩
    · rw [setBlk_ne (hne i (List.getElem?_eq_some_iff.1 h).1 hi)]
      exact hs.cells i d S h
  · intro i z d h
    simp only [List.length_set]
    rcases hget i _ h with ⟨rfl, e⟩ | ⟨hi, h⟩
    · cases e
    · obtain ⟨h1, h2⟩ := hs.ro i z d h
      refine ⟨fun j v hv => ?_, h2⟩
      rw [World.cell?_of_block (w := w) (a := ⟨ρ i, z + j, none⟩) (setBlk_ne (hne i (List.getElem?_eq_some_iff.1 h).1 hi))]
      exact h1 j v hv
  · intro i d h
    rcases hget i _ h with ⟨rfl, e⟩ | ⟨hi, h⟩
    · cases e
    · rw [setBlk_ne (hne i (List.getElem?_eq_some_iff.1 h).1 hi)]
      exact hs.obj i d h
theorem ext_set {b : Nat} {o o' : AO} {ob : Obj} (hb : L[b]? = some o) (hw : o.wr = true) (hw' : o'.wr = true) : Ext ρ L w ρ (L.set b o') (setBlk w (ρ b) ob) := by
  refine ⟨rfl, rfl, rfl, by rw [setBlk_size]; exact Nat.le_refl _, by simp, fun _ _ => rfl, fun i o h h1 _ => ?_, fun j hj hn => ?_, fun i p h h1 => ?_⟩
  · have := (List.getElem?_eq_some_iff.1 h1).1; simp at this; omega
  · exact setBlk_ne (hn b o hb hw)
  · rw [List.getElem?_set]
    split
    · rename_i e; subst e; rw [hb] at h; simp only [Option.some.injEq] at h; rw [h, h1] at hw; cases hw
    · exact h
theorem cells_rl (v : Value) : (rl ρ v).cells.toList = (cellsL v).map (rl ρ) := by
  cases v with
  | agg cs => simp [Value.cells, cellsL]
  | pointer a => cases a <;> simp [Value.cells, cellsL]
  | slice a _ _ => cases a <;> simp [Value.cells, cellsL]
  | map a => cases a <;> simp [Value.cells, cellsL]
  | chan a => cases a <;> simp [Value.cells, cellsL, rl]
  | _ => simp [Value.cells, cellsL, rl]
theorem one_rl (v : Value) : one (rl ρ v) = one v := by
  cases v with
  | pointer a => cases a <;> simp [one]
  | slice a _ _ => cases a <;> simp [one]
  | map a => cases a <;> simp [one]
  | chan a => cases a <;> simp [one, rl]
  | _ => simp [one, rl]
theorem all_one_rl (l : List Value) : (l.map (rl ρ)).all one = l.all one := by
  rw [List.all_map]; congr 1; funext v; exact one_rl v
theorem WF_cells {n : Nat} {v : Value} (h : WF n v) : ∀ u ∈ cellsL v, WF n u := by
  unfold cellsL
  split
  · exact WF_agg.1 h
  · simpa using h
theorem mem_spl {c vs : List Value} {o : Nat} {v : Value} (h : v ∈ spl c o vs) : v ∈ c ∨ v ∈ vs := by
  unfold spl at h
  split at h
  · rcases List.mem_or_eq_of_mem_set h with h | h
    · exact .inl h
    · exact .inr (by simp [h])
  · simp only [List.mem_append] at h
    rcases h with (h | h) | h
    · exact .inl (List.mem_of_mem_take h)
    · exact .inr h
    · exact .inl (List.mem_of_mem_drop h)
theorem wrM_sound {L' : List AO} {t : TypeId} {p v : Value} (hs : Sim ng ρ L w) (hv : WF L.length v) (h : wrM P L t p v = some L') :
    ∃ w', (Instr.storeAt t (rl ρ p) (rl ρ v)).run P w = .ok () w' ∧ Sim ng ρ L' w' ∧ Ext ρ L w ρ L' w' ∧ L'.length = L.length := by
  unfold wrM at h
  split at h
  · rename_i b o
    split at h
    · rename_i ag s hz
      split at h
      · rename_i c T hc
        split at h
        · rename_i hcond
          obtain ⟨h1, h2, h3⟩ := hcond
          simp only [Option.some.injEq] at h; subst h
          obtain ⟨hb, hcw⟩ := hs.cells b c T hc
          have h3' : o + (cellsL v).length ≤ c.length := by omega
          refine ⟨setBlk w (ρ b) (.cells ((spl c o (cellsL v)).map (rl ρ)).toArray T (0, 0)), ?_, sim_set hs hc (fun u hu => ?_), ext_set hc rfl rfl, by simp⟩
          · have hst := run_storeCells (P := P) ((cellsL v).map (rl ρ)) (c.map (rl ρ)) o 0 w hb (by rw [all_one_rl]; exact h2) (by simp; omega)
            have hsz : (rl ρ v).cells.size = s := by rw [← Array.length_toList, cells_rl]; simp [h1]
            simp only [rl_ptr, Instr.storeAt, Instr.sureAddr, Sem.run_bind, Sem.run_pure, Result.andThen_ok, storeVar, run_sizeOf hz, hsz, ne_eq, not_true_eq_false, if_false, cells_rl, hst]
            rw [spl_map _ h3', spl_eq (by simpa using h3')]
            simp
          · rcases mem_spl hu with hu | hu
            · exact hcw u hu
            · exact WF_cells hv u hu
        · cases h
      · cases h
    · cases h
  · cases h
def pushBlk (w : World) (o : Obj) : World := { w with heap := w.heap.push o }
def upN (ρ : Nat → Nat) (n b : Nat) : Nat → Nat := fun i => if i = n then b else ρ i
theorem upN_lt {n b i : Nat} (h : i < n) : upN ρ n b i = ρ i := by unfold upN; rw [if_neg (by omega)]
theorem upN_eq {n b : Nat} : upN ρ n b n = b := by simp [upN]
theorem rl_upN {n b : Nat} {v : Value} (h : WF n v) : rl (upN ρ n b) v = rl ρ v := h _ _ fun i hi => upN_lt hi
theorem map_upN {n b : Nat} {l : List Value} (h : ∀ v ∈ l, WF n v) : l.map (rl (upN ρ n b)) = l.map (rl ρ) := List.map_congr_left fun v hv => rl_upN (h v hv)
theorem push_old {i : Nat} {o : Obj} (h : i < w.heap.size) : (pushBlk w o).heap[i]? = w.heap[i]? := by
  simp only [pushBlk, Array.getElem?_push]; rw [if_neg (by omega)]
theorem push_new {o : Obj} : (pushBlk w o).heap[w.heap.size]? = some o := by simp only [pushBlk]; exact Array.getElem?_push_size
theorem sim_push {o : AO} {ob : Obj} (hs : Sim ng ρ L w)
    (h1 : ∀ c T, o = .cells c T → ob = .cells (c.map (rl ρ)).toArray T (0, 0) ∧ ∀ v ∈ c, WF L.length v) (h2 : ∀ z c, o ≠ .ro z c) (h3 : ∀ p, o = .obj p → ob = p) :
    Sim ng (upN ρ L.length w.heap.size) (L ++ [o]) (pushBlk w ob) := by
  have hold : ∀ i, i < L.length → upN ρ L.length w.heap.size i = ρ i := fun i hi => upN_lt hi
  have hget : ∀ i (q : AO), (L ++ [o])[i]? = some q → (i < L.length ∧ L[i]? = some q) ∨ (i = L.length ∧ q = o) := fun i q h => by
    by_cases hi : i < L.length
    · rw [List.getElem?_append_left hi] at h; exact .inl ⟨hi, h⟩
    · rw [List.getElem?_append_right (by omega)] at h
      have hi' : i = L.length := by
        have := (List.getElem?_eq_some_iff.1 h).1; simp at this; omega
      subst hi'
      simp at h; exact .inr ⟨rfl, h.symm⟩
  refine ⟨by simp; have := hs.ngl; omega, fun g hg => ?_, ?_, ?_, ?_, ?_, ?_⟩
  · rw [hold g (Nat.lt_of_lt_of_le hg hs.ngl), hs.glob g hg]
  · intro i j q h hw hj e
    simp only [List.length_append, List.length_cons, List.length_nil] at hj
    rcases hget i q h with ⟨hi, h⟩ | ⟨rfl, rfl⟩
    · by_cases hjl : j < L.length
      · rw [hold i hi, hold j hjl] at e; exact hs.inj i j q h hw hjl e
      · have : j = L.length := by omega
        subst this
        rw [hold i hi, upN_eq] at e
        have := hs.lt i hi; omega
    · by_cases hjl : j < L.length
      · rw [upN_eq, hold j hjl] at e
        have := hs.lt j hjl; omega
      · omega
  · intro i hi
    simp only [List.length_append, List.length_cons, List.length_nil] at hi
    simp only [pushBlk, Array.size_push]
    by_cases hil : i < L.length
    · rw [hold i hil]; have := hs.lt i hil; omega
    · have : i = L.length := by omega
      subst this; rw [upN_eq]; omega
  · intro i c T h
    simp only [List.length_append, List.length_cons, List.length_nil]
    rcases hget i _ h with ⟨hi, h⟩ | ⟨rfl, e⟩
    · obtain ⟨hc, hw⟩ := hs.cells i c T h
      rw [hold i hi, push_old (hs.lt i hi), map_upN hw]
      exact ⟨hc, fun v hv => (hw v hv).mono (by omega)⟩
    · obtain ⟨hob, hw⟩ := h1 c T e.symm
      rw [upN_eq, push_new, hob, map_upN hw]
      exact ⟨rfl, fun v hv => (hw v hv).mono (by omega)⟩
  · intro i z c h
    simp only [List.length_append, List.length_cons, List.length_nil]
    rcases hget i _ h with ⟨hi, h⟩ | ⟨rfl, e⟩
    · obtain ⟨hc, hw⟩ := hs.ro i z c h
      refine ⟨fun j v hv => ?_, fun v hv => (hw v hv).mono (by omega)⟩
      rw [hold i hi, World.cell?_of_block (w := w) (a := ⟨ρ i, z + j, none⟩) (push_old (hs.lt i hi)), hc j v hv, rl_upN (hw v (List.mem_of_getElem? hv))]
    · exact absurd e.symm (h2 z c)
  · intro i p h
    rcases hget i _ h with ⟨hi, h⟩ | ⟨rfl, e⟩
    · rw [hold i hi, push_old (hs.lt i hi)]; exact hs.obj i p h
    · rw [upN_eq, push_new, h3 p e.symm]
theorem ext_push {o : AO} {ob : Obj} : Ext ρ L w (upN ρ L.length w.heap.size) (L ++ [o]) (pushBlk w ob) := by
  refine ⟨rfl, rfl, rfl, by simp [pushBlk], by simp, fun i hi => upN_lt hi, fun i q h h1 _ => ?_, fun j hj _ => push_old hj, fun i q h _ => ?_⟩
  · have := (List.getElem?_eq_some_iff.1 h1).1
    simp at this
    have : i = L.length := by omega
    subst this; rw [upN_eq]; exact Nat.le_refl _
  · rw [List.getElem?_append_left (List.getElem?_eq_some_iff.1 h).1]; exact h
theorem WF_new {n : Nat} {o : Nat} : WF (n + 1) (.pointer (some ⟨n, o, none⟩)) := fun ρ ρ' e => by simp [e n (by omega)]
end
end Go.Tb
end
