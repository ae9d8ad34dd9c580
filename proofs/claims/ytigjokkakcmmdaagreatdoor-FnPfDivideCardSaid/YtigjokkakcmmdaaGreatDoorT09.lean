/-
  A part of the proof (my own): of the texts that the claim's last text rests on: parts Call, Bits, Z, E, Y.
-/
import Derived.Test.YtigjokkakcmmdaaGreatDoorT07
import Derived.Test.YtigjokkakcmmdaaGreatDoorT08
set_option linter.unusedSimpArgs false
set_option linter.unusedVariables false
section
namespace Go.Tb
open Go
section
variable {X : Cx}
def idxOk (idx : List Nat) (n0 n : Nat) : Bool := idx.length == n0 && idx.all (fun j => decide (j < n)) && decide idx.Nodup
def fitL (σ : Nat → Nat) (L : List AO) : List Nat → List AO → Prop
  | [], [] => True
  | j :: js, o :: os => L[j]? = some (rnO σ o) ∧ fitL σ L js os
  | _, _ => False
theorem fitL_get {σ : Nat → Nat} {L : List AO} : ∀ {idx : List Nat} {L0 : List AO}, fitL σ L idx L0 → ∀ (i : Nat) (o : AO), L0[i]? = some o → ∃ j, idx[i]? = some j ∧ L[j]? = some (rnO σ o)
  | [], [], _, i, o, h => by simp at h
  | j :: js, o :: os, hf, 0, p, h => by simp at h; subst h; exact ⟨j, rfl, hf.1⟩
  | j :: js, o :: os, hf, i + 1, p, h => by
    obtain ⟨q, h1, h2⟩ := fitL_get hf.2 i p (by simpa using h)
    exact ⟨q, by simpa using h1, h2⟩
theorem setAll_fit {σ : Nat → Nat} : ∀ {idx : List Nat} {L0 L : List AO}, fitL σ L idx L0 → setAll L idx (L0.map (rnO σ)) = L
  | [], [], L, _ => rfl
  | j :: js, o :: os, L, h => by
    simp only [List.map_cons, setAll]
    have hj := (List.getElem?_eq_some_iff.1 h.1)
    have : L.set j (rnO σ o) = L := by
      apply List.ext_getElem?
      intro k
      rw [List.getElem?_set]
      split
      · rename_i e; subst e; rw [if_pos hj.1, h.1]
      · rfl
    rw [this]; exact setAll_fit h.2
structure FnM (X : Cx) (f : FuncId) (vs : List Value) (L : List AO) {A : Type} (P : A → Prop) (v : A → Value) (M : A → List AO) : Prop where
  wv : ∀ u ∈ vs, WF (100 + L.length) u
  wl : ∀ o ∈ L, o.wf (100 + L.length)
  new : ∀ x, P x → ∀ o ∈ (M x).drop L.length, o.wr = true
  call : CallM X f vs L fun u N => ∃ x, P x ∧ u = v x ∧ N = M x
theorem FnM.use {f : FuncId} {vs0 vs : List Value} {L0 L : List AO} {A : Type} {P : A → Prop} {v : A → Value} {M : A → List AO} (h : FnM X f vs0 L0 P v M) (idx : List Nat) (hi : idxOk idx L0.length L.length = true) (hf : fitL (sig idx L.length) L idx L0)
    (hvs : vs = vs0.map (rl (sig idx L.length))) {K : Value → List AO → Prop} (hk : ∀ x, P x → K (rl (sig idx L.length) (v x)) (fixL (sig idx L.length) L idx (M x))) : CallM X f vs L K := by
  subst hvs
  simp only [idxOk, Bool.and_eq_true, beq_iff_eq, List.all_eq_true, decide_eq_true_eq] at hi
  refine CallM.frame idx h.call hi.1.1 hi.1.2 hi.2 (fitL_get hf) h.wv h.wl ?_
  rintro u N hl ⟨x, hx, rfl, rfl⟩
  exact ⟨by rw [hi.1.1]; exact h.new x hx, hk x hx⟩
structure FnR (X : Cx) (f : FuncId) (vs : List Value) (L : List AO) (v : Value) : Prop where
  wv : ∀ u ∈ vs, WF (100 + L.length) u
  wl : ∀ o ∈ L, o.wf (100 + L.length)
  wr : WF (100 + L.length) v
  call : CallM X f vs L fun u N => u = v ∧ N = L
theorem FnR.m {f : FuncId} {vs : List Value} {L : List AO} {v : Value} (h : FnR X f vs L v) : FnM X f vs L (fun _ : Unit => True) (fun _ => v) (fun _ => L) :=
  ⟨h.wv, h.wl, fun _ _ o ho => by simp at ho, h.call.mono fun _ _ ⟨h1, h2⟩ => ⟨(), trivial, h1, h2⟩⟩
theorem FnR.useM {f : FuncId} {vs0 vs : List Value} {L0 L : List AO} {v : Value} (h : FnR X f vs0 L0 v) (idx : List Nat) (hi : idxOk idx L0.length L.length = true) (hf : fitL (sig idx L.length) L idx L0)
    (hvs : vs = vs0.map (rl (sig idx L.length))) {K : Value → List AO → Prop} (hk : K (rl (sig idx L.length) v) L) : CallM X f vs L K := by
  refine h.m.use idx hi hf hvs fun _ _ => ?_
  have hl : idx.length = L0.length := by
    simp only [idxOk, Bool.and_eq_true, beq_iff_eq] at hi; exact hi.1.1
  have : fixL (sig idx L.length) L idx L0 = L := by
    unfold fixL; rw [setAll_fit hf, hl]; simp
  rw [this]; exact hk
theorem sig_lt {idx : List Nat} {n0 n m k : Nat} (hi : idxOk idx n0 n = true) (hk : k < 100 + n0) : sig idx m k < 100 + n := by
  simp only [idxOk, Bool.and_eq_true, beq_iff_eq, List.all_eq_true, decide_eq_true_eq] at hi
  unfold sig
  split
  · omega
  · have : k - 100 < idx.length := by omega
    rw [List.getElem?_eq_getElem this]
    have := hi.1.2 _ (List.getElem_mem this)
    simp only; omega
theorem FnR.useQ {f : FuncId} {vs0 vs : List Value} {L0 L : List AO} {v : Value} (h : FnR X f vs0 L0 v) (idx : List Nat) (hi : idxOk idx L0.length L.length = true) (hf : fitL (sig idx L.length) L idx L0)
    (hvs : vs = vs0.map (rl (sig idx L.length))) {K : Value → Prop} (hk : K (rl (sig idx L.length) v)) : CallQ X f vs L K :=
  CallQ.of_m (h.useM idx hi hf hvs ⟨rfl, rfl⟩) (h.wr.map fun k hk => sig_lt hi hk) hk
end
section
variable {X : Cx}
def qG (X : Cx) (o : Out) (dst : Option Tmp) (all rest : List Oper) (fr : Fr) (L : List AO) (K : Fr → Prop) : Prop := onQ X o L fun v => wpQs X all L rest (fr.put dst v) K
def qC (X : Cx) (c : Option Value) (want : Bool) (dst : Option Tmp) (op : Op) (all rest : List Oper) (fr : Fr) (L : List AO) (K : Fr → Prop) : Prop :=
  onG c want (qG X (outQ X fr L op) dst all rest fr L K) (wpQs X all L rest (fr.put dst (.tuple #[])) K)
section
variable (all : List Oper) (dst : Option Tmp) (op : Op) (type : TypeId) (pos : String) (after : Array Edge) (rest : List Oper) (fr : Fr) (L : List AO) (K : Fr → Prop)
theorem qs_nil : wpQs X all L [] fr K = K fr := rfl
theorem qs_n : wpQs X all L ({ dst, op, type, pos, after, guard := none } :: rest) fr K = qG X (outQ X fr L op) dst all rest fr L K := by simp only [wpQs, wpQ_out, qG]
theorem qs_g (j : Nat) (want : Bool) : wpQs X all L ({ dst, op, type, pos, after, guard := some (j, want) } :: rest) fr K = qC X (gd all fr j) want dst op all rest fr L K := by simp only [wpQs, wpQ_out, qC, qG]
theorem qG_v (v : Value) (M : List AO) : qG X (.v v M) dst all rest fr L K = wpQs X all L rest (fr.put dst v) K := rfl
theorem qC_tt : qC X (some (.bool true)) true dst op all rest fr L K = qG X (outQ X fr L op) dst all rest fr L K := by simp [qC, onG]
theorem qC_ff : qC X (some (.bool false)) false dst op all rest fr L K = qG X (outQ X fr L op) dst all rest fr L K := by simp [qC, onG]
theorem qC_tup (vs : Array Value) (want : Bool) : qC X (some (.tuple vs)) want dst op all rest fr L K = wpQs X all L rest (fr.put dst (.tuple #[])) K := rfl
theorem qC_tf : qC X (some (.bool true)) false dst op all rest fr L K = wpQs X all L rest (fr.put dst (.tuple #[])) K := by simp [qC, onG]
theorem qC_ft : qC X (some (.bool false)) true dst op all rest fr L K = wpQs X all L rest (fr.put dst (.tuple #[])) K := by simp [qC, onG]
end
section
variable {all rest : List Oper} {dst : Option Tmp} {op : Op} {fr : Fr} {L : List AO} {K : Fr → Prop} {want : Bool}
theorem qC_bool {c : Bool} (h1 : c = true → qC X (some (.bool true)) want dst op all rest fr L K) (h2 : c = false → qC X (some (.bool false)) want dst op all rest fr L K) : qC X (some (.bool c)) want dst op all rest fr L K := by
  cases c
  · exact h2 rfl
  · exact h1 rfl
theorem qC_dec {p : Prop} {_ : Decidable p} (h1 : p → qC X (some (.bool true)) want dst op all rest fr L K) (h2 : ¬ p → qC X (some (.bool false)) want dst op all rest fr L K) : qC X (some (.bool (decide p))) want dst op all rest fr L K :=
  qC_bool (fun h => h1 (of_decide_eq_true h)) (fun h => h2 (of_decide_eq_false h))
theorem qC_ndec {p : Prop} {_ : Decidable p} (h1 : ¬ p → qC X (some (.bool true)) want dst op all rest fr L K) (h2 : p → qC X (some (.bool false)) want dst op all rest fr L K) : qC X (some (.bool (!decide p))) want dst op all rest fr L K :=
  qC_bool (fun h => h1 (by simpa using h)) (fun h => h2 (by simpa using h))
theorem qG_call {f : FuncId} {vs : List Value} {v : Value} (h : FnP X f vs v) (hk : wpQs X all L rest (fr.put dst v) K) : qG X (.c (f, [], []) vs) dst all rest fr L K := by
  show CallQ X f ([] ++ vs ++ []) L _
  rw [List.nil_append, List.append_nil]
  exact h.q hk
end
@[congr] theorem qG_congr {o o' : Out} (dst all rest) {fr fr' : Fr} (L : List AO) (K : Fr → Prop) (h : o = o') (h' : fr = fr') : qG X o dst all rest fr L K = qG X o' dst all rest fr' L K := by rw [h, h']
@[congr] theorem qC_congr {c c' : Option Value} (want dst op all rest) {fr fr' : Fr} (L : List AO) (K : Fr → Prop) (h : c = c') (h' : fr = fr') : qC X c want dst op all rest fr L K = qC X c' want dst op all rest fr' L K := by rw [h, h']
section
variable {all rest : List Oper} {d : Option Tmp} {fr : Fr} {L : List AO} {K : Fr → List AO → Prop} {f : FuncId} {vs0 vs : List Value} {L0 : List AO}
theorem call_fr {A : Type} {P : A → Prop} {v : A → Value} {M : A → List AO} (h : FnM X f vs0 L0 P v M) (idx : List Nat) (hi : idxOk idx L0.length L.length = true) (hf : fitL (sig idx L.length) L idx L0) (hvs : vs = vs0.map (rl (sig idx L.length)))
    (hk : ∀ x, P x → wpOps X all rest (fr.put d (rl (sig idx L.length) (v x))) (fixL (sig idx L.length) L idx (M x)) K) : CallO X (some (f, [], [])) (some vs) all rest fr d L K := by
  show CallM X f ([] ++ vs ++ []) L _
  rw [List.nil_append, List.append_nil]
  exact h.use idx hi hf hvs hk
theorem call_rd {v : Value} (h : FnR X f vs0 L0 v) (idx : List Nat) (hi : idxOk idx L0.length L.length = true) (hf : fitL (sig idx L.length) L idx L0) (hvs : vs = vs0.map (rl (sig idx L.length)))
    (hk : wpOps X all rest (fr.put d (rl (sig idx L.length) v)) L K) : CallO X (some (f, [], [])) (some vs) all rest fr d L K := by
  show CallM X f ([] ++ vs ++ []) L _
  rw [List.nil_append, List.append_nil]
  exact h.useM idx hi hf hvs hk
end
theorem map_ints (σ : Nat → Nat) (k : IntKind) (n : Nat) (f : Nat → Int) : (ints k n f).map (rl σ) = ints k n f := by
  conv => rhs; rw [← List.map_id (ints k n f)]
  exact List.map_congr_left fun v hv => ints_pl k n f v hv σ
theorem rn_cells (σ : Nat → Nat) (c : List Value) (T : TypeId) : rnO σ (.cells c T) = .cells (c.map (rl σ)) T := rfl
theorem rn_ro (σ : Nat → Nat) (c : List Value) (b : Nat) : rnO σ (.ro b c) = .ro b (c.map (rl σ)) := rfl
theorem rn_any (σ : Nat → Nat) : rnO σ .any = .any := rfl
theorem rn_obj (σ : Nat → Nat) (o : Obj) : rnO σ (.obj o) = .obj o := rfl
theorem setAll_nil (L : List AO) : setAll L [] [] = L := rfl
theorem setAll_nil2 (L : List AO) (o : AO) (os : List AO) : setAll L [] (o :: os) = L := rfl
theorem setAll_cons (L : List AO) (j : Nat) (js : List Nat) (m : AO) (ms : List AO) : setAll L (j :: js) (m :: ms) = setAll (L.set j m) js ms := rfl
theorem fixL_eq (σ : Nat → Nat) (L : List AO) (idx : List Nat) (M : List AO) : fixL σ L idx M = setAll L idx (M.map (rnO σ)) ++ (M.drop idx.length).map (rnO σ) := rfl
def sigO (o : Option Nat) (n k l : Nat) : Nat := match o with
  | some j => 100 + j
  | none => 100 + n + (k - 100 - l)
end
theorem onGd_tup {X : Cx} (vs : Array Value) (want : Bool) (all : List Oper) (o : Oper) (rest : List Oper) (fr : Fr) (L : List AO) (K : Fr → List AO → Prop) : onGd X (some (.tuple vs)) want all o rest fr L K = wpOps X all rest (fr.put o.dst (.tuple #[])) L K := rfl
attribute [go_sem] onGd_tup qC_tup qs_nil qs_n qs_g qG_v qC_tt qC_ff qC_tf qC_ft
end Go.Tb
end
section
namespace Go.Tb
open Go
abbrev bv (x : BitVec 64) : Value := .int .u64 (x.toNat : Int)
theorem ofI (x : BitVec 64) : BitVec.ofInt 64 (x.toNat : Int) = x := by
  apply BitVec.eq_of_toNat_eq
  rw [BitVec.ofInt_natCast, BitVec.toNat_ofNat]
  exact Nat.mod_eq_of_lt x.isLt
theorem wrap_bv (x : BitVec 64) : IntKind.u64.wrap (x.toNat : Int) = (x.toNat : Int) := by
  have := x.isLt
  exact IntWalk.u64_in _ (by omega)
theorem wrap_of (n : Int) : IntKind.u64.wrap n = ((BitVec.ofInt 64 n).toNat : Int) := by
  rw [BitVec.toNat_ofInt]
  simp only [IntKind.wrap, IntKind.signed, IntKind.bits]
  have := Int.emod_nonneg n (show (2 : Int) ^ 64 ≠ 0 by decide)
  rw [Int.toNat_of_nonneg (by simpa using this)]
  simp
theorem bv_and (a b : Int) : band .u64 a b = ((BitVec.ofInt 64 a &&& BitVec.ofInt 64 b).toNat : Int) := wrap_bv _
theorem bv_or (a b : Int) : bor .u64 a b = ((BitVec.ofInt 64 a ||| BitVec.ofInt 64 b).toNat : Int) := wrap_bv _
theorem bv_xor (a b : Int) : bxor .u64 a b = ((BitVec.ofInt 64 a ^^^ BitVec.ofInt 64 b).toNat : Int) := wrap_bv _
theorem bv_not (a : Int) : bnot .u64 a = ((~~~ BitVec.ofInt 64 a).toNat : Int) := by
  show bxor .u64 (IntKind.u64.max) a = _
  rw [bv_xor]
  have : BitVec.ofInt 64 IntKind.u64.max = BitVec.allOnes 64 := by decide
  rw [this, BitVec.allOnes_xor]
theorem wrap_sub (x y : BitVec 64) : IntKind.u64.wrap ((x.toNat : Int) - (y.toNat : Int)) = ((x - y).toNat : Int) := by
  rw [wrap_of, Int.sub_eq_add_neg, BitVec.ofInt_add, BitVec.ofInt_neg, ofI, ofI, BitVec.sub_eq_add_neg]
theorem wrap_mul2 (y : BitVec 64) : IntKind.u64.wrap (2 * (y.toNat : Int)) = ((2#64 * y).toNat : Int) := by
  rw [wrap_of, BitVec.ofInt_mul, ofI]; rfl
theorem bv_shl (a s : Int) : bshl .u64 a s = ((BitVec.ofInt 64 a <<< s.toNat).toNat : Int) := by
  unfold bshl
  rw [wrap_of]
  congr 2
  show BitVec.ofInt 64 (a * 2 ^ min s.toNat 64) = _
  apply BitVec.eq_of_toInt_eq
  rw [BitVec.ofInt_mul]
  rcases Nat.lt_or_ge s.toNat 64 with h | h
  · rw [Nat.min_eq_left (by omega), BitVec.shiftLeft_eq_mul_twoPow]
    congr 2
    rw [show ((2 : Int) ^ s.toNat) = ((2 ^ s.toNat : Nat) : Int) by push_cast; rfl, BitVec.ofInt_natCast]
    apply BitVec.eq_of_toNat_eq
    rw [BitVec.toNat_twoPow, BitVec.toNat_ofNat]
  · rw [Nat.min_eq_right h, BitVec.shiftLeft_eq_zero h]
    have : BitVec.ofInt 64 (2 ^ 64) = 0#64 := by decide
    rw [this]; simp
theorem bv_shr (x : BitVec 64) (s : Int) : bshr .u64 (x.toNat : Int) s = ((x >>> s.toNat).toNat : Int) := by
  show Int.fdiv (x.toNat : Int) (2 ^ min s.toNat 64) = _
  rw [BitVec.toNat_ushiftRight, Nat.shiftRight_eq_div_pow]
  rw [show ((2 : Int) ^ min s.toNat 64) = ((2 ^ min s.toNat 64 : Nat) : Int) by push_cast; rfl]
  rw [Int.fdiv_eq_ediv_of_nonneg _ (Int.natCast_nonneg _), ← Int.natCast_ediv]
  congr 1
  rcases Nat.lt_or_ge s.toNat 64 with h | h
  · rw [Nat.min_eq_left (by omega)]
  · rw [Nat.min_eq_right h]
    have h1 := x.isLt
    have h2 : 2 ^ 64 ≤ 2 ^ s.toNat := Nat.pow_le_pow_right (by decide) h
    rw [Nat.div_eq_of_lt h1, Nat.div_eq_of_lt (by omega)]
section
variable (x y : BitVec 64)
theorem dec_bv : decide ((x.toNat : Int) = (y.toNat : Int)) = decide (x = y) := by
  congr 1; rw [Int.natCast_inj, BitVec.toNat_inj]
theorem dec_0 : decide ((x.toNat : Int) = 0) = decide (x = 0#64) := dec_bv x 0#64
theorem dec_1 : decide ((x.toNat : Int) = 1) = decide (x = 1#64) := dec_bv x 1#64
end
attribute [go_sem] ofI wrap_bv wrap_sub wrap_mul2 bv_and bv_or bv_xor bv_not bv_shl bv_shr dec_bv dec_0 dec_1
def sqB (s : Int) : BitVec 64 := 1#64 <<< (63 - s).toNat
def occB (x : BitVec 64) (s : Int) : Bool := x.getLsbD (63 - s).toNat
theorem get_1 (x : BitVec 64) : decide (x &&& 1#64 = 1#64) = x.getLsbD 0 := by
  have h : x &&& 1#64 = if x.getLsbD 0 then 1#64 else 0#64 := by
    apply BitVec.eq_of_getLsbD_eq
    intro i hi
    rw [BitVec.getLsbD_and]
    have h1 : (1#64).getLsbD i = decide (i = 0) := by simp [BitVec.getLsbD_one]
    rw [h1]
    by_cases h0 : i = 0
    · subst h0; cases hx : x.getLsbD 0 <;> simp
    · cases hx : x.getLsbD 0 <;> simp [h0]
  rw [h]
  cases x.getLsbD 0 <;> decide
theorem and_sq {x : BitVec 64} {s : Int} (h : 0 ≤ s ∧ s < 64) : decide (x &&& sqB s = 0#64) = !occB x s := by
  unfold sqB occB
  generalize hk : (63 - s).toNat = k
  have hk' : k < 64 := by omega
  have h : x &&& (1#64 <<< k) = if x.getLsbD k then 1#64 <<< k else 0#64 := by
    apply BitVec.eq_of_getLsbD_eq
    intro i hi
    rw [BitVec.getLsbD_and]
    have h1 : (1#64 <<< k).getLsbD i = decide (i = k) := by
      simp only [BitVec.getLsbD_shiftLeft, BitVec.getLsbD_one]
      by_cases h0 : i = k
      · subst h0; simp [hi]
      · simp [h0]; omega
    rw [h1]
    by_cases h0 : i = k
    · subst h0; cases hx : x.getLsbD i <;> simp [h1]
    · cases hx : x.getLsbD k <;> simp [h0, h1]
  have h2 : 1#64 <<< k ≠ 0#64 := by
    intro e
    have := congrArg (fun z => z.getLsbD k) e
    simp [BitVec.getLsbD_shiftLeft, hk'] at this
  rw [h]
  cases x.getLsbD k <;> simp [h2]
end Go.Tb
end
section
namespace Go.Tb
open Go
def wpPz (X : Cx) (all : List Oper) : Nat → List Oper → List Step → AccA → Fr → List AO → (Fr → List AO → Prop) → Prop
  | _, [], _, _, fr, L, K => K fr L
  | _, _ :: _, [], _, _, _, _ => False
  | i, o :: os, s :: ss, acc, fr, L, K =>
      let go : Prop := match s with
        | .q => wpQ X fr L o.op fun v => wpPz X all (i + 1) os ss acc (fr.put o.dst v) L K
        | .r => wpQ X fr L o.op fun v => wpPz X all (i + 1) os ss ((i, obl X fr o.op v) :: acc) (fr.put o.dst v) L K
        | .e js => wpO X fr L o.op fun v L' => chk js acc L' ∧ wpPz X all (i + 1) os ss acc (fr.put o.dst v) L' K
      let no : Prop := match s with
        | .e js => chk js acc L
        | _ => True
      match o.guard with
      | none => go
      | some (j, want) => onG (gd all fr j) want go (no ∧ wpPz X all (i + 1) os ss acc (fr.put o.dst (.tuple #[])) L K)
def idPl : Nat → List Step → List (Nat × Step)
  | _, [] => []
  | i, s :: ss => (i, s) :: idPl (i + 1) ss
section
variable {X : Cx}
theorem wpQ_mono {fr : Fr} {L : List AO} {op : Op} {K K' : Value → Prop} (h : wpQ X fr L op K) (hk : ∀ v, K v → K' v) : wpQ X fr L op K' := by
  obtain ⟨v, h1, h2⟩ := wpQ_split h
  rw [wpQ_out] at h2 ⊢
  unfold onQ at h2 ⊢
  split at h2
  · subst h2; exact hk _ h1
  · obtain ⟨g1, u, g2, g3⟩ := h2
    subst g2; exact ⟨g1, u, hk _ h1, g3⟩
  · exact h2.elim
theorem onV_mono {α : Type} {o : Option α} {K K' : α → Prop} (h : onV o K) (hk : ∀ v, K v → K' v) : onV o K' := by
  obtain ⟨v, h1, h2⟩ := onV_spec h
  rw [h1]; exact hk v h2
theorem onG_mono {c : Option Value} {want : Bool} {A B A' B' : Prop} (h : onG c want A B) (ha : A → A') (hb : B → B') : onG c want A' B' := by
  rcases onG_spec h with ⟨b, h1, h2, h3⟩ | ⟨vs, h1, h2⟩
  · rw [h1]; exact onG_intro (fun e => ha (h2 e)) (fun e => hb (h3 e))
  · rw [h1]; exact hb h2
theorem wpO_mono {fr : Fr} {L : List AO} {op : Op} {K K' : Value → List AO → Prop} (h : wpO X fr L op K) (hk : ∀ v M, K v M → K' v M) : wpO X fr L op K' := by
  unfold wpO at h ⊢
  split at h
  · exact onV_mono h fun v => hk v _
  · exact onV_mono h fun v => hk _ _
  · exact onV_mono h fun v => hk _ _
  · exact onV_mono h fun v => hk _ _
  · exact onV_mono h fun g hg => onV_mono hg fun vs hc => hc.mono hk
  · refine onV_mono h fun vs hc => ?_
    unfold app2 at hc ⊢
    split at hc
    · unfold AppM at hc ⊢
      split at hc
      case h_2 => exact hc.elim
      obtain ⟨e, sz, b, zc, m, news, a1, a2, a3, a4, a5, a6⟩ := hc
      refine ⟨e, sz, b, zc, m, news, a1, a2, a3, a4, a5, ?_⟩
      rcases a6 with ⟨g1, L', g2, L'', g3, g4⟩ | ⟨g1, g2, g3, olds, g4, g5⟩
      · exact .inl ⟨g1, L', g2, L'', g3, hk _ _ g4⟩
      · exact .inr ⟨g1, g2, g3, olds, g4, fun c' hc' => by obtain ⟨L', q1, q2⟩ := g5 c' hc'; exact ⟨L', q1, hk _ _ q2⟩⟩
    · exact hc.elim
  · refine onV_mono h fun vs hc => ?_
    unfold cpy2 at hc ⊢
    split at hc
    · unfold CopyM at hc ⊢
      split at hc
      case h_2 => exact hc.elim
      obtain ⟨e, sz, b, m, news, M', a1, a2, a3, a4, a5, L', a6, a7⟩ := hc
      exact ⟨e, sz, b, m, news, M', a1, a2, a3, a4, a5, L', a6, hk _ _ a7⟩
    · exact hc.elim
  · exact onV_mono h fun v => hk v _
  · exact onV_mono h fun v => hk _ _
  · exact onV_mono h fun v => hk _ _
  · exact onV_mono h fun v => hk _ _
  · exact RawO.mono h hk
  · exact RawO.mono h hk
  · exact RawO.mono h hk
  · exact onV_mono h fun v => hk _ _
theorem pz_pi {all : List Oper} {K : Fr → List AO → Prop} : ∀ (os : List Oper) (ss : List Step) (i : Nat) (acc : AccA) (fr : Fr) (L : List AO), all.drop i = os → os.length = ss.length → wpPz X all i os ss acc fr L K → wpPi X all (idPl i ss) acc fr L K
  | [], [], i, acc, fr, L, _, _, h => h
  | [], _ :: _, _, _, _, _, _, hl, _ => by simp at hl
  | _ :: _, [], _, _, _, _, _, hl, _ => by simp at hl
  | o :: os, s :: ss, i, acc, fr, L, hd, hl, h => by
    have ho : all[i]? = some o := by
      have := congrArg (·[0]?) hd
      simpa using this
    have hd' : all.drop (i + 1) = os := by
      have := congrArg List.tail hd
      simpa using this
    have ih := fun (acc : AccA) (fr : Fr) (L : List AO) (h : wpPz X all (i + 1) os ss acc fr L K) => pz_pi os ss (i + 1) acc fr L hd' (by simpa using hl) h
    simp only [wpPz] at h
    simp only [idPl, wpPi, ho]
    cases hg : o.guard with
    | none =>
      rw [hg] at h
      cases s with
      | q => exact wpQ_mono h fun v hv => ih _ _ _ hv
      | r => exact wpQ_mono h fun v hv => ih _ _ _ hv
      | e js => exact wpO_mono h fun v M hv => ⟨hv.1, ih _ _ _ hv.2⟩
    | some p =>
      obtain ⟨j, want⟩ := p
      rw [hg] at h
      refine onG_mono h (fun h => ?_) (fun h => ⟨?_, ih _ _ _ h.2⟩)
      · cases s with
        | q => exact wpQ_mono h fun v hv => ih _ _ _ hv
        | r => exact wpQ_mono h fun v hv => ih _ _ _ hv
        | e js => exact wpO_mono h fun v M hv => ⟨hv.1, ih _ _ _ hv.2⟩
      · cases s with
        | q => trivial
        | r => trivial
        | e js => exact h.1
theorem draw3 {N n0 : Nat} {D : List Deferred} {id : Nat} {ops : Array Oper} {K : Fr → List AO → Prop} {fr : Fr} {L : List AO} (ss : List Step) (hB : (drawB ops (idPl 0 ss) && (ops.size == ss.length)) = true) (hd : ops.toList.all (dstIn N) = true) (h : wpPz X ops.toList 0 ops.toList ss [] fr L K) : DrawM X N D n0 id ops K fr L := by
  simp only [Bool.and_eq_true, beq_iff_eq] at hB
  exact draw2 (idPl 0 ss) hB.1 hd (pz_pi _ ss 0 _ _ _ rfl (by simpa using hB.2) h)
def zG (X : Cx) (b : Bool) (o : Out) (dst : Option Tmp) (op : Op) (i : Nat) (all os : List Oper) (ss : List Step) (acc : AccA) (fr : Fr) (L : List AO) (K : Fr → List AO → Prop) : Prop :=
  onQ X o L fun v => wpPz X all (i + 1) os ss (if b then (i, obl X fr op v) :: acc else acc) (fr.put dst v) L K
def zC (X : Cx) (b : Bool) (c : Option Value) (want : Bool) (dst : Option Tmp) (op : Op) (i : Nat) (all os : List Oper) (ss : List Step) (acc : AccA) (fr : Fr) (L : List AO) (K : Fr → List AO → Prop) : Prop :=
  onG c want (zG X b (outQ X fr L op) dst op i all os ss acc fr L K) (wpPz X all (i + 1) os ss acc (fr.put dst (.tuple #[])) L K)
def zE (X : Cx) (o : Out) (dst : Option Tmp) (js : List Nat) (i : Nat) (all os : List Oper) (ss : List Step) (acc : AccA) (fr : Fr) (L : List AO) (K : Fr → List AO → Prop) : Prop :=
  onE X o L fun v L' => chk js acc L' ∧ wpPz X all (i + 1) os ss acc (fr.put dst v) L' K
def zD (X : Cx) (c : Option Value) (want : Bool) (dst : Option Tmp) (js : List Nat) (op : Op) (i : Nat) (all os : List Oper) (ss : List Step) (acc : AccA) (fr : Fr) (L : List AO) (K : Fr → List AO → Prop) : Prop :=
  onG c want (zE X (outE X fr L op) dst js i all os ss acc fr L K) (chk js acc L ∧ wpPz X all (i + 1) os ss acc (fr.put dst (.tuple #[])) L K)
section
variable (all os : List Oper) (ss : List Step) (acc : AccA) (fr : Fr) (L : List AO) (K : Fr → List AO → Prop) (i : Nat) (b : Bool) (dst : Option Tmp) (op : Op) (type : TypeId) (pos : String) (after : Array Edge)
theorem pz_nil : wpPz X all i [] ss acc fr L K = K fr L := by cases ss <;> rfl
theorem pz_r : wpPz X all i ({ dst, op, type, pos, after, guard := none } :: os) (.r :: ss) acc fr L K = zG X true (outQ X fr L op) dst op i all os ss acc fr L K := by
  simp only [wpPz, wpQ_out, zG]; rfl
theorem pz_e {js : List Nat} (h : zE X (outE X fr L op) dst js i all os ss acc fr L K) : wpPz X all i ({ dst, op, type, pos, after, guard := none } :: os) (.e js :: ss) acc fr L K := onE_wpO h
theorem pz_eg {js : List Nat} (j : Nat) (want : Bool) (h : zD X (gd all fr j) want dst js op i all os ss acc fr L K) : wpPz X all i ({ dst, op, type, pos, after, guard := some (j, want) } :: os) (.e js :: ss) acc fr L K :=
  onG_mono h (fun h => onE_wpO h) fun h => h
variable (js : List Nat)
theorem zG_t (v : Value) (M : List AO) : zG X true (.v v M) dst op i all os ss acc fr L K = wpPz X all (i + 1) os ss ((i, obl X fr op v) :: acc) (fr.put dst v) L K := rfl
end
section
variable {all os : List Oper} {ss : List Step} {acc : AccA} {fr : Fr} {L : List AO} {K : Fr → List AO → Prop} {i : Nat} {b : Bool} {dst : Option Tmp} {op : Op} {want : Bool} {js : List Nat}
theorem zC_bool {c : Bool} (h1 : c = true → zC X b (some (.bool true)) want dst op i all os ss acc fr L K) (h2 : c = false → zC X b (some (.bool false)) want dst op i all os ss acc fr L K) : zC X b (some (.bool c)) want dst op i all os ss acc fr L K := by
  cases c
  · exact h2 rfl
  · exact h1 rfl
theorem zC_dec {p : Prop} {_ : Decidable p} (h1 : p → zC X b (some (.bool true)) want dst op i all os ss acc fr L K) (h2 : ¬ p → zC X b (some (.bool false)) want dst op i all os ss acc fr L K) : zC X b (some (.bool (decide p))) want dst op i all os ss acc fr L K :=
  zC_bool (fun h => h1 (of_decide_eq_true h)) (fun h => h2 (of_decide_eq_false h))
theorem zC_ndec {p : Prop} {_ : Decidable p} (h1 : ¬ p → zC X b (some (.bool true)) want dst op i all os ss acc fr L K) (h2 : p → zC X b (some (.bool false)) want dst op i all os ss acc fr L K) : zC X b (some (.bool (!decide p))) want dst op i all os ss acc fr L K :=
  zC_bool (fun h => h1 (by simpa using h)) (fun h => h2 (by simpa using h))
theorem zD_bool {c : Bool} (h1 : c = true → zD X (some (.bool true)) want dst js op i all os ss acc fr L K) (h2 : c = false → zD X (some (.bool false)) want dst js op i all os ss acc fr L K) : zD X (some (.bool c)) want dst js op i all os ss acc fr L K := by
  cases c
  · exact h2 rfl
  · exact h1 rfl
theorem zD_dec {p : Prop} {_ : Decidable p} (h1 : p → zD X (some (.bool true)) want dst js op i all os ss acc fr L K) (h2 : ¬ p → zD X (some (.bool false)) want dst js op i all os ss acc fr L K) : zD X (some (.bool (decide p))) want dst js op i all os ss acc fr L K :=
  zD_bool (fun h => h1 (of_decide_eq_true h)) (fun h => h2 (of_decide_eq_false h))
theorem zG_call {f : FuncId} {vs : List Value} {v : Value} (h : FnP X f vs v) (hk : wpPz X all (i + 1) os ss (if b then (i, obl X fr op v) :: acc else acc) (fr.put dst v) L K) : zG X b (.c (f, [], []) vs) dst op i all os ss acc fr L K := by
  show CallQ X f ([] ++ vs ++ []) L _
  rw [List.nil_append, List.append_nil]
  exact h.q hk
theorem zG_q {f : FuncId} {vs : List Value} {R : Value → Prop} (h : CallQ X f vs L R) (hk : ∀ v, R v → wpPz X all (i + 1) os ss (if b then (i, obl X fr op v) :: acc else acc) (fr.put dst v) L K) : zG X b (.c (f, [], []) vs) dst op i all os ss acc fr L K := by
  show CallQ X f ([] ++ vs ++ []) L _
  rw [List.nil_append, List.append_nil]
  obtain ⟨h1, v, h2, h3⟩ := h
  exact ⟨h1, v, hk v h2, h3⟩
theorem qG_q {all rest : List Oper} {K : Fr → Prop} {f : FuncId} {vs : List Value} {R : Value → Prop} (h : CallQ X f vs L R) (hk : ∀ v, R v → wpQs X all L rest (fr.put dst v) K) : qG X (.c (f, [], []) vs) dst all rest fr L K := by
  show CallQ X f ([] ++ vs ++ []) L _
  rw [List.nil_append, List.append_nil]
  obtain ⟨h1, v, h2, h3⟩ := h
  exact ⟨h1, v, hk v h2, h3⟩
theorem call_mm {all rest : List Oper} {d : Option Tmp} {f : FuncId} {vs : List Value} {R : Value → List AO → Prop} (h : CallM X f vs L R) (hk : ∀ v L', R v L' → wpOps X all rest (fr.put d v) L' K) : CallO X (some (f, [], [])) (some vs) all rest fr d L K := by
  show CallM X f ([] ++ vs ++ []) L _
  rw [List.nil_append, List.append_nil]
  exact h.mono hk
end
@[congr] theorem zG_congr (b) {o o' : Out} (dst op i all os ss acc) {fr fr' : Fr} {L L' : List AO} (K : Fr → List AO → Prop) (h : o = o') (h' : fr = fr') (h2 : L = L') : zG X b o dst op i all os ss acc fr L K = zG X b o' dst op i all os ss acc fr' L' K := by rw [h, h', h2]
@[congr] theorem zC_congr (b) {c c' : Option Value} (want dst op i all os ss acc) {fr fr' : Fr} {L L' : List AO} (K : Fr → List AO → Prop) (h : c = c') (h' : fr = fr') (h2 : L = L') : zC X b c want dst op i all os ss acc fr L K = zC X b c' want dst op i all os ss acc fr' L' K := by rw [h, h', h2]
@[congr] theorem zE_congr {o o' : Out} (dst js i all os ss acc) {fr fr' : Fr} {L L' : List AO} (K : Fr → List AO → Prop) (h : o = o') (h' : fr = fr') (h2 : L = L') : zE X o dst js i all os ss acc fr L K = zE X o' dst js i all os ss acc fr' L' K := by rw [h, h', h2]
@[congr] theorem zD_congr {c c' : Option Value} (want dst js op i all os ss acc) {fr fr' : Fr} {L L' : List AO} (K : Fr → List AO → Prop) (h : c = c') (h' : fr = fr') (h2 : L = L') : zD X c want dst js op i all os ss acc fr L K = zD X c' want dst js op i all os ss acc fr' L' K := by rw [h, h', h2]
@[congr] theorem wpPz_congr (all i os ss acc) {fr fr' : Fr} {L L' : List AO} (K : Fr → List AO → Prop) (h' : fr = fr') (h2 : L = L') : wpPz X all i os ss acc fr L K = wpPz X all i os ss acc fr' L' K := by rw [h', h2]
end
section
variable {X : Cx} (fr : Fr) (L : List AO)
theorem e_store (t : TypeId) (x y : Operand) : outE X fr L (.store t x y) = ofVL (storeL (ap2 (wrL X L t) (evO X.ng fr x) (evO X.ng fr y))) := rfl
theorem e_box (t : TypeId) (x : Operand) : outE X fr L (.box t x) = ofVL (boxL L t (evO X.ng fr x)) := rfl
theorem e_call (f : Operand) (args : Array Operand) (tys : Array TypeId) : outE X fr L (.call { callee := .value f, args, argTypes := tys }) = callR (fnO (evO X.ng fr f)) (evs X.ng fr args.toList) := rfl
theorem e_append (args : Array Operand) (tys : Array TypeId) : outE X fr L (.call { callee := .builtin .append, args, argTypes := tys }) = appR (evs X.ng fr args.toList) tys.toList := rfl
theorem e_bslice (t : TypeId) (n : Nat) (parts : Array (Nat × Operand)) : outE X fr L (.buildSlice t n parts) = ofVL (newR L (bsO X.P t n (pts X.ng fr parts.toList))) := rfl
end
attribute [go_sem] pz_nil pz_r zG_t e_store e_box e_call e_append e_bslice
end Go.Tb
end
section
namespace Go.Tb
open Go
section
variable {X : Cx} {all os : List Oper} {ss : List Step} {pl : List (Nat × Step)} {acc : AccA} {fr : Fr} {L : List AO} {K : Fr → List AO → Prop} {i : Nat} {dst : Option Tmp} {js : List Nat} {f : FuncId} {vs0 vs : List Value} {L0 : List AO}
theorem piE_fr {A : Type} {P : A → Prop} {v : A → Value} {M : A → List AO} (h : FnM X f vs0 L0 P v M) (idx : List Nat) (hi : idxOk idx L0.length L.length = true) (hf : fitL (sig idx L.length) L idx L0) (hvs : vs = vs0.map (rl (sig idx L.length)))
    (hk : ∀ x, P x → chk js acc (fixL (sig idx L.length) L idx (M x)) ∧ wpPi X all pl acc (fr.put dst (rl (sig idx L.length) (v x))) (fixL (sig idx L.length) L idx (M x)) K) : piE X (.c (f, [], []) vs) dst js all pl acc fr L K := by
  show CallM X f ([] ++ vs ++ []) L _
  rw [List.nil_append, List.append_nil]
  exact h.use idx hi hf hvs hk
theorem piE_v0 (v : Value) (L' : List AO) : piE X (.v v L') dst [] all pl acc fr L K = wpPi X all pl acc (fr.put dst v) L' K := by simp only [piE, onE, chk, true_and]
theorem piE_v1 (v : Value) (L' : List AO) (js : List Nat) : piE X (.v v L') dst js all pl acc fr L K = (chk js acc L' ∧ wpPi X all pl acc (fr.put dst v) L' K) := rfl
theorem zE_v1 (v : Value) (L' : List AO) (js : List Nat) : zE X (.v v L') dst js i all os ss acc fr L K = (chk js acc L' ∧ wpPz X all (i + 1) os ss acc (fr.put dst v) L' K) := rfl
@[congr] theorem piE_congr {o o' : Out} (dst js all pl acc) {fr fr' : Fr} {L L' : List AO} (K : Fr → List AO → Prop) (h : o = o') (h' : fr = fr') (h2 : L = L') : piE X o dst js all pl acc fr L K = piE X o' dst js all pl acc fr' L' K := by rw [h, h', h2]
end
theorem obl_q {X : Cx} (fr : Fr) (op : Op) (v : Value) (L : List AO) : obl X fr op v L = onQ X (outQ X fr L op) L fun u => u = v := by unfold obl; rw [wpQ_out]
theorem onQ_v {X : Cx} (u : Value) (M L : List AO) (K : Value → Prop) : onQ X (.v u M) L K = K u := rfl
attribute [go_sem] piE_v0
end Go.Tb
end
section
namespace Go.Tb
open Go
def wpPy (X : Cx) (all : List Oper) : List Oper → List Bool → Fr → List AO → (Fr → List AO → Prop) → Prop
  | [], _, fr, L, K => K fr L
  | _ :: _, [], _, _, _ => False
  | o :: os, s :: ss, fr, L, K =>
      let go : Prop := match s with
        | false => wpQ X fr L o.op fun v => wpPy X all os ss (fr.put o.dst v) L K
        | true => wpO X fr L o.op fun v L' => wpPy X all os ss (fr.put o.dst v) L' K
      match o.guard with
      | none => go
      | some (j, want) => onG (gd all fr j) want go (wpPy X all os ss (fr.put o.dst (.tuple #[])) L K)
def stepY : Step → Bool
  | .e _ => true
  | _ => false
def noJs : Step → Bool
  | .e js => js.isEmpty
  | _ => true
section
variable {X : Cx}
theorem py_pz {all : List Oper} {K : Fr → List AO → Prop} : ∀ (os : List Oper) (ss : List Step) (i : Nat) (acc : AccA) (fr : Fr) (L : List AO), ss.all noJs = true → wpPy X all os (ss.map stepY) fr L K → wpPz X all i os ss acc fr L K
  | [], ss, i, acc, fr, L, _, h => by cases ss <;> exact h
  | _ :: _, [], i, acc, fr, L, _, h => h.elim
  | o :: os, s :: ss, i, acc, fr, L, hn, h => by
    simp only [List.all_cons, Bool.and_eq_true] at hn
    have ih := fun (acc : AccA) (fr : Fr) (L : List AO) (h : wpPy X all os (ss.map stepY) fr L K) => py_pz os ss (i + 1) acc fr L hn.2 h
    simp only [List.map_cons, wpPy] at h
    simp only [wpPz]
    cases s with
    | q =>
      cases hg : o.guard with
      | none => rw [hg] at h; exact wpQ_mono h fun v hv => ih _ _ _ hv
      | some p =>
        obtain ⟨j, want⟩ := p
        rw [hg] at h
        exact onG_mono h (fun h => wpQ_mono h fun v hv => ih _ _ _ hv) fun h => ⟨trivial, ih _ _ _ h⟩
    | r =>
      cases hg : o.guard with
      | none => rw [hg] at h; exact wpQ_mono h fun v hv => ih _ _ _ hv
      | some p =>
        obtain ⟨j, want⟩ := p
        rw [hg] at h
        exact onG_mono h (fun h => wpQ_mono h fun v hv => ih _ _ _ hv) fun h => ⟨trivial, ih _ _ _ h⟩
    | e js =>
      have hj : js = [] := by simpa [noJs] using hn.1
      subst hj
      cases hg : o.guard with
      | none => rw [hg] at h; exact wpO_mono h fun v M hv => ⟨trivial, ih _ _ _ hv⟩
      | some p =>
        obtain ⟨j, want⟩ := p
        rw [hg] at h
        exact onG_mono h (fun h => wpO_mono h fun v M hv => ⟨trivial, ih _ _ _ hv⟩) fun h => ⟨trivial, ih _ _ _ h⟩
theorem draw4 {N n0 : Nat} {D : List Deferred} {id : Nat} {ops : Array Oper} {K : Fr → List AO → Prop} {fr : Fr} {L : List AO} (ss : List Step) (bs : List Bool) (hb : bs = ss.map stepY) (hB : (drawB ops (idPl 0 ss) && (ops.size == ss.length) && ss.all noJs) = true) (hd : ops.toList.all (dstIn N) = true) (h : wpPy X ops.toList ops.toList bs fr L K) : DrawM X N D n0 id ops K fr L := by
  rw [Bool.and_eq_true] at hB
  subst hb
  exact draw3 ss hB.1 hd (py_pz _ ss 0 [] _ _ hB.2 h)
theorem draw4l {N n0 : Nat} {D : List Deferred} {id : Nat} {l : List Oper} {K : Fr → List AO → Prop} {fr : Fr} {L : List AO} (ss : List Step) (bs : List Bool) (hb : bs = ss.map stepY) (hB : (drawB l.toArray (idPl 0 ss) && (l.toArray.size == ss.length) && ss.all noJs) = true) (hd : l.all (dstIn N) = true) (h : ∀ bs', bs' = bs → wpPy X l l bs' fr L K) : DrawM X N D n0 id l.toArray K fr L :=
  draw4 ss bs hb hB (by simpa using hd) (by simpa using h bs rfl)
def yG (X : Cx) (o : Out) (dst : Option Tmp) (all os : List Oper) (ss : List Bool) (fr : Fr) (L : List AO) (K : Fr → List AO → Prop) : Prop :=
  onQ X o L fun v => wpPy X all os ss (fr.put dst v) L K
def yC (X : Cx) (c : Option Value) (want : Bool) (dst : Option Tmp) (op : Op) (all os : List Oper) (ss : List Bool) (fr : Fr) (L : List AO) (K : Fr → List AO → Prop) : Prop :=
  onG c want (yG X (outQ X fr L op) dst all os ss fr L K) (wpPy X all os ss (fr.put dst (.tuple #[])) L K)
def yE (X : Cx) (o : Out) (dst : Option Tmp) (all os : List Oper) (ss : List Bool) (fr : Fr) (L : List AO) (K : Fr → List AO → Prop) : Prop :=
  onE X o L fun v L' => wpPy X all os ss (fr.put dst v) L' K
section
variable (all os : List Oper) (ss : List Bool) (fr : Fr) (L : List AO) (K : Fr → List AO → Prop) (dst : Option Tmp) (op : Op) (type : TypeId) (pos : String) (after : Array Edge)
theorem py_nil : wpPy X all [] ss fr L K = K fr L := by cases ss <;> rfl
theorem py_q : wpPy X all ({ dst, op, type, pos, after, guard := none } :: os) (false :: ss) fr L K = yG X (outQ X fr L op) dst all os ss fr L K := by
  simp only [wpPy, wpQ_out, yG]
theorem py_qg (j : Nat) (want : Bool) : wpPy X all ({ dst, op, type, pos, after, guard := some (j, want) } :: os) (false :: ss) fr L K = yC X (gd all fr j) want dst op all os ss fr L K := by
  simp only [wpPy, wpQ_out, yC, yG]
theorem py_e (h : yE X (outE X fr L op) dst all os ss fr L K) : wpPy X all ({ dst, op, type, pos, after, guard := none } :: os) (true :: ss) fr L K := onE_wpO h
theorem yC_tt : yC X (some (.bool true)) true dst op all os ss fr L K = yG X (outQ X fr L op) dst all os ss fr L K := by simp [yC, onG]
theorem yC_ft : yC X (some (.bool false)) true dst op all os ss fr L K = wpPy X all os ss (fr.put dst (.tuple #[])) L K := by simp [yC, onG]
theorem yG_v (v : Value) (M : List AO) : yG X (.v v M) dst all os ss fr L K = wpPy X all os ss (fr.put dst v) L K := rfl
theorem yE_v (v : Value) (L' : List AO) : yE X (.v v L') dst all os ss fr L K = wpPy X all os ss (fr.put dst v) L' K := rfl
end
section
variable {all os : List Oper} {ss : List Bool} {fr : Fr} {L : List AO} {K : Fr → List AO → Prop} {dst : Option Tmp} {op : Op} {want : Bool}
theorem yC_bool {c : Bool} (h1 : c = true → yC X (some (.bool true)) want dst op all os ss fr L K) (h2 : c = false → yC X (some (.bool false)) want dst op all os ss fr L K) : yC X (some (.bool c)) want dst op all os ss fr L K := by
  cases c
  · exact h2 rfl
  · exact h1 rfl
theorem yC_dec {p : Prop} {_ : Decidable p} (h1 : p → yC X (some (.bool true)) want dst op all os ss fr L K) (h2 : ¬ p → yC X (some (.bool false)) want dst op all os ss fr L K) : yC X (some (.bool (decide p))) want dst op all os ss fr L K :=
  yC_bool (fun h => h1 (of_decide_eq_true h)) (fun h => h2 (of_decide_eq_false h))
theorem yC_ndec {p : Prop} {_ : Decidable p} (h1 : ¬ p → yC X (some (.bool true)) want dst op all os ss fr L K) (h2 : p → yC X (some (.bool false)) want dst op all os ss fr L K) : yC X (some (.bool (!decide p))) want dst op all os ss fr L K :=
  yC_bool (fun h => h1 (by simpa using h)) (fun h => h2 (by simpa using h))
theorem yG_call {f : FuncId} {vs : List Value} {v : Value} (h : FnP X f vs v) (hk : wpPy X all os ss (fr.put dst v) L K) : yG X (.c (f, [], []) vs) dst all os ss fr L K := by
  show CallQ X f ([] ++ vs ++ []) L _
  rw [List.nil_append, List.append_nil]
  exact h.q hk
end
@[congr] theorem yG_congr {o o' : Out} (dst all os ss) {fr fr' : Fr} {L L' : List AO} (K : Fr → List AO → Prop) (h : o = o') (h' : fr = fr') (h2 : L = L') : yG X o dst all os ss fr L K = yG X o' dst all os ss fr' L' K := by rw [h, h', h2]
@[congr] theorem yC_congr {c c' : Option Value} (want dst op all os ss) {fr fr' : Fr} {L L' : List AO} (K : Fr → List AO → Prop) (h : c = c') (h' : fr = fr') (h2 : L = L') : yC X c want dst op all os ss fr L K = yC X c' want dst op all os ss fr' L' K := by rw [h, h', h2]
@[congr] theorem yE_congr {o o' : Out} (dst all os ss) {fr fr' : Fr} {L L' : List AO} (K : Fr → List AO → Prop) (h : o = o') (h' : fr = fr') (h2 : L = L') : yE X o dst all os ss fr L K = yE X o' dst all os ss fr' L' K := by rw [h, h', h2]
@[congr] theorem wpPy_congr (all os ss) {fr fr' : Fr} {L L' : List AO} (K : Fr → List AO → Prop) (h' : fr = fr') (h2 : L = L') : wpPy X all os ss fr L K = wpPy X all os ss fr' L' K := by rw [h', h2]
end
theorem bsF_1 {e b n : Nat} {v : Value} {ps : List (Nat × Value)} (h : n ≤ 16777216) : bsF (some (e, 1, b)) (some [v]) n ps = mp4 e n (fillL (fun i => some (i * 1, 1)) (zrep n [v]) ps) := bsF_some ⟨by omega, rfl, by decide⟩
theorem bsF_2 {e b n : Nat} {u v : Value} {ps : List (Nat × Value)} (h : n ≤ 1000000) : bsF (some (e, 2, b)) (some [u, v]) n ps = mp4 e n (fillL (fun i => some (i * 2, 2)) (zrep n [u, v]) ps) := bsF_some ⟨by omega, rfl, by decide⟩
theorem bsF_3 {e b n : Nat} {u v w : Value} {ps : List (Nat × Value)} (h : n ≤ 1000000) : bsF (some (e, 3, b)) (some [u, v, w]) n ps = mp4 e n (fillL (fun i => some (i * 3, 3)) (zrep n [u, v, w]) ps) := bsF_some ⟨by omega, rfl, by decide⟩
theorem zrep0 (c : List Value) : zrep 0 c = [] := rfl
theorem zrepS (n : Nat) (c : List Value) : zrep (n + 1) c = c ++ zrep n c := by simp [zrep, List.replicate_succ]
def flI (n m size off : Nat) (pl : Nat → Option (Nat × Nat)) (c : List Value) (vs : List Value) (ps : List (Nat × Value)) : Option (List Value) := if n = size ∧ off + size ≤ m then fillL pl (spl c off vs) ps else none
theorem flO_l (off size : Nat) (pl : Nat → Option (Nat × Nat)) (c vs : List Value) (ps : List (Nat × Value)) : flO (some (off, size)) pl c vs ps = flI vs.length c.length size off pl c vs ps := rfl
theorem flI_ok {n m size off : Nat} {pl : Nat → Option (Nat × Nat)} {c vs : List Value} {ps : List (Nat × Value)} (h : n = size ∧ off + size ≤ m) : flI n m size off pl c vs ps = fillL pl (spl c off vs) ps := by simp [flI, h]
attribute [go_sem] flO_l flI_ok py_nil py_q py_qg yC_tt yC_ft yG_v yE_v bsF_1 bsF_2 bsF_3 zrep0 zrepS
end Go.Tb
end
