/-
  A part of the proof (my own): of the texts that the claim's last text rests on: parts C1, C2, C3, C4, P1.
-/
import Derived.Test.YtigjokkakcmmdaaGreatDoorT12
import Derived.Test.YtigjokkakcmmdaaGreatDoorT11
set_option linter.unusedSimpArgs false
set_option linter.unusedVariables false
section
namespace Go.Tb
open Go Go.Proofs
variable {z : Nat × Nat}
set_option maxRecDepth 20000
abbrev mV (f t p : Int) : Value := .agg [.int .i64 f, .int .i64 t, .int .i64 p].toArray
theorem mV_pl (f t p : Int) : Pl (mV f t p) := Pl.agg (by simp [Pl.int])
def takesSq (c : Nat → Int) (f t : Int) : Int := if c t.toNat ≠ 0 then t else if kindOf (c f.toNat) = 6 ∧ f % 8 ≠ t % 8 then atSq (t % 8) (f / 8) else -1
def takesIs (c : Nat → Int) (f t : Int) : Bool := if c t.toNat ≠ 0 then true else if kindOf (c f.toNat) = 6 ∧ f % 8 ≠ t % 8 then true else false
set_option maxHeartbeats 2000000 in
theorem takes_ok (c : Nat → Int) {f t p : Int} (hf : 0 ≤ f ∧ f ≤ 63) (ht : 0 ≤ t ∧ t ≤ 63) (hc : 0 ≤ c f.toNat ∧ c f.toNat ≤ 12) : FnP (Tz z) 29 [posV c, mV f t p] (.tuple [.int .i64 (takesSq c f t), .bool (takesIs c f t)].toArray) := by
  refine ⟨by simp [posV_pl, mV_pl], Pl.tuple (by simp [Pl.int, Pl.bool]), start [0, 1, 2, 3, 4, 5, 11, 29] Tryz.func29 rfl (by decide) rfl (by kernel_rfl) (by simp [Tryz.f29]) ?_⟩
  simp only [Tryz.f29]
  unfold posV
  repeat' (first | (with_reducible first | refine draw (by kernel_rfl) (by kernel_rfl) ?_ | apply pz_e | apply pz_eg | apply py_e | refine call_p (kindOf_ok (by omega) (by omega)) ?_ | refine qG_call (kindOf_ok (by omega) (by omega)) ?_ | refine zG_call (kindOf_ok (by omega) (by omega)) ?_ | refine yG_call (kindOf_ok (by omega) (by omega)) ?_ | refine piG_call (kindOf_ok (by omega) (by omega)) ?_ | refine call_p (file_ok (by omega)) ?_ | refine qG_call (file_ok (by omega)) ?_ | refine zG_call (file_ok (by omega)) ?_ | refine yG_call (file_ok (by omega)) ?_ | refine piG_call (file_ok (by omega)) ?_ | refine call_p (rank_ok (by omega) (by omega)) ?_ | refine qG_call (rank_ok (by omega) (by omega)) ?_ | refine zG_call (rank_ok (by omega) (by omega)) ?_ | refine yG_call (rank_ok (by omega) (by omega)) ?_ | refine piG_call (rank_ok (by omega) (by omega)) ?_ | refine call_p (at_ok (by omega) (by omega)) ?_ | refine qG_call (at_ok (by omega) (by omega)) ?_ | refine zG_call (at_ok (by omega) (by omega)) ?_ | refine yG_call (at_ok (by omega) (by omega)) ?_ | refine piG_call (at_ok (by omega) (by omega)) ?_ | refine seq_k fun K hK => ?_) | (with_reducible refine hK _ _ ?_; clear hK) | ((with_reducible first | refine gd_dec ?_ ?_ | refine gd_ndec ?_ ?_ | refine qC_dec ?_ ?_ | refine qC_ndec ?_ ?_ | refine piC_dec ?_ ?_ | refine piC_ndec ?_ ?_ | refine zC_dec ?_ ?_ | refine zC_ndec ?_ ?_ | refine zD_dec ?_ ?_ | refine yC_dec ?_ ?_ | refine yC_ndec ?_ ?_ | refine if_dec ?_ ?_ | refine if_ndec ?_ ?_) <;> intro hh) | simp -implicitDefEqProofs (disch := first | omega | assumption) only [go_sem, ↓reduceIte, Nat.reduceEqDiff, Int.reduceEq, Nat.reduceAdd, Nat.reduceSub, Nat.reduceMul, Nat.mul_one, Nat.one_mul, List.length_nil, List.length_cons, List.nil_append, List.cons_append, List.length_append, List.set_cons_zero, List.set_cons_succ, Nat.zero_add, Nat.sub_zero, Option.isNone_none, Option.isNone_some, Int.toNat_natCast, Nat.add_sub_cancel_left, Bool.not_true, Bool.not_false, BitVec.reduceOfInt, Int.reduceToNat] | ((with_reducible first | refine gd_bool ?_ ?_ | refine if_bool ?_ ?_ | refine qC_bool ?_ ?_ | refine piC_bool ?_ ?_ | refine zC_bool ?_ ?_ | refine zD_bool ?_ ?_ | refine yC_bool ?_ ?_) <;> intro hh) | clear hK)
  all_goals (simp only [takesSq, takesIs, ne_eq, *, not_true, not_false_iff, ↓reduceIte, and_true, true_and, false_and, and_false])
def leftN (x f t : Int) : Nat → Int
  | 0 => x
  | k + 1 => let y := leftN x f t k; if bitI y k = 1 ∧ (f = homeK k ∨ f = homeR k ∨ t = homeK k ∨ t = homeR k) then y - 2 ^ k else y
theorem bitI_sub {n : Int} {k : Nat} (h : 0 ≤ n ∧ n ≤ 15) (hk : k < 4) (hb : bitI n k = 1) : 0 ≤ n - 2 ^ k ∧ n - 2 ^ k ≤ 15 := by
  have : k = 0 ∨ k = 1 ∨ k = 2 ∨ k = 3 := by omega
  rcases this with rfl | rfl | rfl | rfl <;> simp only [bitI] at hb <;> omega
theorem leftN_bd {x f t : Int} (hx : 0 ≤ x ∧ x ≤ 15) : ∀ {k : Nat}, k ≤ 4 → 0 ≤ leftN x f t k ∧ leftN x f t k ≤ 15
  | 0, _ => hx
  | k + 1, h => by
    have ih := leftN_bd (f := f) (t := t) hx (k := k) (by omega)
    simp only [leftN]
    split
    · rename_i hc; exact bitI_sub ih (by omega) hc.1
    · exact ih
attribute [local irreducible] band bshr bshl homeK homeR leftN in
set_option maxHeartbeats 2000000 in
theorem left_ok {x f t p : Int} (hx : 0 ≤ x ∧ x ≤ 15) (hf : 0 ≤ f ∧ f ≤ 63) (ht : 0 ≤ t ∧ t ≤ 63) : FnP (Tz z) 34 [.int .i64 x, mV f t p] (.int .i64 (leftN x f t 4)) := by
  refine ⟨by simp [Pl.int, mV_pl], Pl.int, start [0, 1, 3, 4, 5, 6, 7, 9, 45] Tryz.func34 rfl (by decide) rfl (by kernel_rfl) (by simp [Tryz.f34]) ?_⟩
  simp only [Tryz.f34]
  repeat' (first | (with_reducible first | refine loop (V := [0, 1, 3, 4, 5, 6, 7, 9, 45]) (fun k : Nat => ([(0, .int .i64 (leftN x f t k)), (3, .pointer (some ⟨100, 0, none⟩)), (5, .int .i64 k)], [.cells [.int .i64 f, .int .i64 t, .int .i64 p] 38])) (fun k => k ≤ 4) (fun k => 4 - k) 0 (by kernel_rfl) ?_ ?_ (fun k hk => (fun hr => ?_) (leftN_bd (f := f) (t := t) hx hk)) | refine call_p (home_ok (by omega)) ?_ | refine qG_call (home_ok (by omega)) ?_ | refine zG_call (home_ok (by omega)) ?_ | refine yG_call (home_ok (by omega)) ?_ | refine piG_call (home_ok (by omega)) ?_ | refine seq_k fun K hK => ?_) | (with_reducible refine hK _ _ ?_; clear hK) | ((with_reducible first | refine gd_dec ?_ ?_ | refine gd_ndec ?_ ?_ | refine qC_dec ?_ ?_ | refine qC_ndec ?_ ?_ | refine piC_dec ?_ ?_ | refine piC_ndec ?_ ?_ | refine zC_dec ?_ ?_ | refine zC_ndec ?_ ?_ | refine zD_dec ?_ ?_ | refine yC_dec ?_ ?_ | refine yC_ndec ?_ ?_ | refine if_dec ?_ ?_ | refine if_ndec ?_ ?_) <;> intro hh) | simp -implicitDefEqProofs (disch := first | omega | assumption) only [go_sem, ↓reduceIte, Nat.reduceEqDiff, Int.reduceEq, Nat.reduceAdd, Nat.reduceSub, Nat.reduceMul, Nat.mul_one, Nat.one_mul, List.length_nil, List.length_cons, List.nil_append, List.cons_append, List.length_append, List.set_cons_zero, List.set_cons_succ, Nat.zero_add, Nat.sub_zero, Option.isNone_none, Option.isNone_some, Int.toNat_natCast, Nat.add_sub_cancel_left, Bool.not_true, Bool.not_false, BitVec.reduceOfInt, Int.reduceToNat] | ((with_reducible first | refine gd_bool ?_ ?_ | refine if_bool ?_ ?_ | refine qC_bool ?_ ?_ | refine piC_bool ?_ ?_ | refine zC_bool ?_ ?_ | refine zD_bool ?_ ?_ | refine yC_bool ?_ ?_) <;> intro hh) | clear hK)
  · exact Nat.zero_le _
  · exact VS.sub2 (by simp [Fr.sub, Fr.get, leftN]) rfl
  all_goals first
    | (have hk4 : k = 4 := by omega
       subst hk4
       first | rfl | trivial)
    | (have e := bit_eq hr (show k < 4 by omega)
       have h2 : leftN x f t (k + 1) = leftN x f t k - 2 ^ k := by
         simp only [leftN]; rw [← e]; clear e; exact if_pos ⟨by assumption, by simp [*]⟩
       have h3 := leftN_bd (f := f) (t := t) hx (k := k + 1) (by omega)
       refine ⟨k + 1, by omega, by omega, VS.sub2 ?_ rfl⟩
       rw [shl_eq (by omega), ← h2, wrap_i64 (n := leftN x f t (k + 1)) (by omega)]
       simp [Fr.sub, Fr.get]; done)
    | (have e := bit_eq hr (show k < 4 by omega)
       have h2 : leftN x f t (k + 1) = leftN x f t k := by
         simp only [leftN]
         refine if_neg fun hc => ?_
         rw [← e] at hc
         clear e
         obtain ⟨q1, q2 | q2 | q2 | q2⟩ := hc <;> contradiction
       refine ⟨k + 1, by omega, by omega, VS.sub2 ?_ rfl⟩
       rw [h2]
       simp [Fr.sub, Fr.get]; done)
end Go.Tb
end
section
namespace Go.Tb
open Go Go.Proofs
variable {z : Nat × Nat}
set_option maxRecDepth 20000
def mdTake (c : Nat → Int) (f t : Int) : Nat → Int := if takesIs c f t = true then upd c (takesSq c f t).toNat 0 else c
def mdMove (c : Nat → Int) (f t : Int) : Nat → Int := upd (upd (mdTake c f t) f.toNat 0) t.toNat (c f.toNat)
def mdProm (c : Nat → Int) (f t p : Int) : Nat → Int := if p = 0 then mdMove c f t else upd (mdMove c f t) t.toNat (p + 6 * c 64)
def cornerOf (f t : Int) : Int := if t < f then atSq 0 (f / 8) else atSq 7 (f / 8)
def isCastle (c : Nat → Int) (f t : Int) : Prop := kindOf (c f.toNat) = 1 ∧ (t = f + 2 ∨ t = f - 2)
instance (c : Nat → Int) (f t : Int) : Decidable (isCastle c f t) := by unfold isCastle; infer_instance
def mdCast (c : Nat → Int) (f t p : Int) : Nat → Int := if isCastle c f t then upd (upd (mdProm c f t p) (cornerOf f t).toNat 0) ((f + t) / 2).toNat (3 + 6 * c 64) else mdProm c f t p
def isJump (c : Nat → Int) (f t : Int) : Prop := kindOf (c f.toNat) = 6 ∧ (t = f + 16 ∨ t = f - 16)
instance (c : Nat → Int) (f t : Int) : Decidable (isJump c f t) := by unfold isJump; infer_instance
def mdEp (c : Nat → Int) (f t : Int) : Int := if isJump c f t then (f + t) / 2 else -1
def mdHalf (c : Nat → Int) (f t : Int) : Int := if takesIs c f t = true ∨ kindOf (c f.toNat) = 6 then 0 else c 67 + 1
def madeC (c : Nat → Int) (f t p : Int) : Nat → Int := upd (upd (upd (upd (upd (mdCast c f t p) 65 (leftN (c 65) f t 4)) 66 (mdEp c f t)) 67 (mdHalf c f t)) 68 (c 68 + c 64)) 64 (1 - c 64)
theorem upd_at (g : Nat → Int) (i : Nat) (v : Int) (j : Nat) : upd g i v j = if j = i then v else g j := rfl
theorem upd_upd (g : Nat → Int) (i : Nat) (v w : Int) : upd (upd g i v) i w = upd g i w := by funext j; simp only [upd]; split <;> rfl
theorem atSq_bd {f r : Int} (hf : 0 ≤ f ∧ f ≤ 7) (hr : 0 ≤ r ∧ r ≤ 7) : 0 ≤ atSq f r ∧ atSq f r < 64 := by unfold atSq; split <;> omega
theorem takesSq_bd {c : Nat → Int} {f t : Int} (hf : 0 ≤ f ∧ f ≤ 63) (ht : 0 ≤ t ∧ t ≤ 63) (h : takesIs c f t = true) : 0 ≤ takesSq c f t ∧ takesSq c f t < 64 := by
  unfold takesIs at h
  unfold takesSq
  split
  · omega
  · split
    · exact atSq_bd (by omega) (by omega)
    · rename_i h1 h2; rw [if_neg h1, if_neg h2] at h; cases h
theorem corner_bd {f t : Int} (hf : 0 ≤ f ∧ f ≤ 63) : 0 ≤ cornerOf f t ∧ cornerOf f t < 64 := by
  unfold cornerOf; split <;> exact atSq_bd (by omega) (by omega)
theorem mdTake_hi {c : Nat → Int} {f t : Int} (hf : 0 ≤ f ∧ f ≤ 63) (ht : 0 ≤ t ∧ t ≤ 63) {j : Nat} (hj : 64 ≤ j) : mdTake c f t j = c j := by
  unfold mdTake
  split
  · have := takesSq_bd hf ht (by assumption)
    rw [upd_at, if_neg (by omega)]
  · rfl
theorem mdCast_hi {c : Nat → Int} {f t p : Int} (hf : 0 ≤ f ∧ f ≤ 63) (ht : 0 ≤ t ∧ t ≤ 63) {j : Nat} (hj : 64 ≤ j) : mdCast c f t p j = c j := by
  have h1 : mdMove c f t j = c j := by
    unfold mdMove; rw [upd_at, if_neg (by omega), upd_at, if_neg (by omega), mdTake_hi hf ht hj]
  have h2 : mdProm c f t p j = c j := by
    unfold mdProm; split
    · exact h1
    · rw [upd_at, if_neg (by omega), h1]
  have := corner_bd (t := t) hf
  unfold mdCast; split
  · rw [upd_at, if_neg (by omega), upd_at, if_neg (by omega), h2]
  · exact h2
theorem wr_ints {g : Nat → Int} {T : TypeId} {L : List AO} {i : Nat} : wrC (some (.cells (List.replicate 69 (.int .i64 0)) T)) L i 69 0 (ints .i64 69 g) = some (L.set i (.cells (ints .i64 69 g) T)) := by
  rw [wrC_in (ints_len _ _ _) (ints_one _ _ _) (by simp), spl_eq (by simp [ints_len])]
  simp [ints_len]
theorem pickV_T {b : Bool} {x y : Option Value} (h : b = true) : pickV (some (.bool b)) x y = x := by rw [h]; rfl
theorem pickV_F {b : Bool} {x y : Option Value} (h : b = false) : pickV (some (.bool b)) x y = y := by rw [h]; rfl
theorem onGd_T {X : Cx} {b : Bool} (h : b = true) (want : Bool) (all : List Oper) (o : Oper) (rest : List Oper) (fr : Fr) (L : List AO) (K : Fr → List AO → Prop) : onGd X (some (.bool b)) want all o rest fr L K = onGd X (some (.bool true)) want all o rest fr L K := by rw [h]
theorem onGd_F {X : Cx} {b : Bool} (h : b = false) (want : Bool) (all : List Oper) (o : Oper) (rest : List Oper) (fr : Fr) (L : List AO) (K : Fr → List AO → Prop) : onGd X (some (.bool b)) want all o rest fr L K = onGd X (some (.bool false)) want all o rest fr L K := by rw [h]
theorem sub3 (a b d : Value) : sub [a, b, d] 0 3 = some [a, b, d] := rfl
theorem wr_int69 {g : Nat → Int} {T : TypeId} {L : List AO} {i o : Nat} {n : Int} (h : o < 69) : wrC (some (.cells (ints .i64 69 g) T)) L i 1 o [.int .i64 n] = some (L.set i (.cells (ints .i64 69 (upd g o n)) T)) := by
  rw [wrC_int (by rw [ints_len]; exact h), ints_set]
set_option maxHeartbeats 8000000 in
theorem made_ok (c : Nat → Int) {f t p : Int} (hf : 0 ≤ f ∧ f ≤ 63) (ht : 0 ≤ t ∧ t ≤ 63) (hp : 0 ≤ p ∧ p ≤ 12) (hb : Bd c) (h64 : 0 ≤ c 64 ∧ c 64 ≤ 1) (h65 : 0 ≤ c 65 ∧ c 65 ≤ 15) (h67 : 0 ≤ c 67 ∧ c 67 ≤ 1000000) (h68 : 0 ≤ c 68 ∧ c 68 ≤ 1000000) :
    FnP (Tz z) 13 [posV c, mV f t p] (posV (madeC c f t p)) := by
  refine ⟨by simp [posV_pl, mV_pl], posV_pl _, start [0, 1, 2, 3, 4, 5, 6, 7, 8, 9, 22, 37, 65, 74, 117, 134] Tryz.func13 rfl (by decide) rfl (by kernel_rfl) (by simp [Tryz.f13]) ?_⟩
  have hx := hb f.toNat (by omega)
  have hq : takesIs c f t = true → 0 ≤ takesSq c f t ∧ takesSq c f t < 64 := takesSq_bd hf ht
  have hc0 := atSq_bd (f := 0) (r := f / 8) (by omega) (by omega)
  have hc7 := atSq_bd (f := 7) (r := f / 8) (by omega) (by omega)
  have e67 := mdCast_hi (c := c) (p := p) hf ht (j := 67) (by decide)
  have e68 := mdCast_hi (c := c) (p := p) hf ht (j := 68) (by decide)
  simp only [Tryz.f13]
  unfold posV
  repeat' (first | (have hq1 := hq (by assumption); clear hq) | (with_reducible first | refine seq_i (a := Code.seq (Code.region 4 _ _) _) [(2, .pointer (some ⟨100, 0, none⟩)), (3, .pointer (some ⟨101, 0, none⟩)), (4, .pointer (some ⟨102, 0, none⟩)), (5, .int .i64 (c f.toNat)), (7, .bool (takesIs c f t)), (8, .pointer (some ⟨103, 0, none⟩))] [.cells (ints .i64 69 c) 24, .cells [.int .i64 f, .int .i64 t, .int .i64 p] 38, .cells (List.replicate 69 (.int .i64 0)) 24, .cells (ints .i64 69 (mdTake c f t)) 24] ?_ (fun K hJ => ?_) | refine seq_i (a := Code.seq (Code.region 8 _ _) _) [(2, .pointer (some ⟨100, 0, none⟩)), (3, .pointer (some ⟨101, 0, none⟩)), (4, .pointer (some ⟨102, 0, none⟩)), (5, .int .i64 (c f.toNat)), (7, .bool (takesIs c f t)), (8, .pointer (some ⟨103, 0, none⟩))] [.cells (ints .i64 69 c) 24, .cells [.int .i64 f, .int .i64 t, .int .i64 p] 38, .cells (List.replicate 69 (.int .i64 0)) 24, .cells (ints .i64 69 (mdProm c f t p)) 24] ?_ (fun K hJ => ?_) | refine seq_i (a := Code.seq (Code.region 10 _ _) _) [(2, .pointer (some ⟨100, 0, none⟩)), (3, .pointer (some ⟨101, 0, none⟩)), (4, .pointer (some ⟨102, 0, none⟩)), (5, .int .i64 (c f.toNat)), (7, .bool (takesIs c f t)), (8, .pointer (some ⟨103, 0, none⟩))] [.cells (ints .i64 69 c) 24, .cells [.int .i64 f, .int .i64 t, .int .i64 p] 38, .cells (List.replicate 69 (.int .i64 0)) 24, .cells (ints .i64 69 (mdCast c f t p)) 24] ?_ (fun K hJ => ?_) | refine seq_i (a := Code.seq (Code.region 18 _ _) _) [(2, .pointer (some ⟨100, 0, none⟩)), (3, .pointer (some ⟨101, 0, none⟩)), (4, .pointer (some ⟨102, 0, none⟩)), (5, .int .i64 (c f.toNat)), (7, .bool (takesIs c f t)), (8, .pointer (some ⟨103, 0, none⟩))] [.cells (ints .i64 69 c) 24, .cells [.int .i64 f, .int .i64 t, .int .i64 p] 38, .cells (List.replicate 69 (.int .i64 0)) 24, .cells (ints .i64 69 (upd (upd (mdCast c f t p) 65 (leftN (c 65) f t 4)) 66 (mdEp c f t))) 24] ?_ (fun K hJ => ?_) | refine seq_i (a := Code.seq (Code.region 21 _ _) _) [(2, .pointer (some ⟨100, 0, none⟩)), (3, .pointer (some ⟨101, 0, none⟩)), (4, .pointer (some ⟨102, 0, none⟩)), (5, .int .i64 (c f.toNat)), (7, .bool (takesIs c f t)), (8, .pointer (some ⟨103, 0, none⟩))] [.cells (ints .i64 69 c) 24, .cells [.int .i64 f, .int .i64 t, .int .i64 p] 38, .cells (List.replicate 69 (.int .i64 0)) 24, .cells (ints .i64 69 (upd (upd (upd (mdCast c f t p) 65 (leftN (c 65) f t 4)) 66 (mdEp c f t)) 67 (mdHalf c f t))) 24] ?_ (fun K hJ => ?_)) | (with_reducible refine hJ _ _ ?_; clear hJ; refine VS.sub2 ?_ ?_) | (with_reducible first | refine draw4 (id := 9) [.q, .r, .q, .r, .q, .r, .r, .q, .q, .e []] [false, false, false, false, false, false, false, false, false, true] (by kernel_rfl) (by kernel_rfl) (by kernel_rfl) ?_ | refine draw4 (id := 15) [.q, .r, .q, .r, .q, .q, .q, .r, .r, .q, .q, .e []] [false, false, false, false, false, false, false, false, false, false, false, true] (by kernel_rfl) (by kernel_rfl) (by kernel_rfl) ?_ | refine draw (by kernel_rfl) (by kernel_rfl) ?_ | apply pz_e | apply pz_eg | apply py_e | refine call_p (takes_ok c hf ht hx) ?_ | refine qG_call (takes_ok c hf ht hx) ?_ | refine zG_call (takes_ok c hf ht hx) ?_ | refine yG_call (takes_ok c hf ht hx) ?_ | refine piG_call (takes_ok c hf ht hx) ?_ | refine call_p (of_ok (by omega) (by omega)) ?_ | refine qG_call (of_ok (by omega) (by omega)) ?_ | refine zG_call (of_ok (by omega) (by omega)) ?_ | refine yG_call (of_ok (by omega) (by omega)) ?_ | refine piG_call (of_ok (by omega) (by omega)) ?_ | refine call_p (kindOf_ok (by omega) (by omega)) ?_ | refine qG_call (kindOf_ok (by omega) (by omega)) ?_ | refine zG_call (kindOf_ok (by omega) (by omega)) ?_ | refine yG_call (kindOf_ok (by omega) (by omega)) ?_ | refine piG_call (kindOf_ok (by omega) (by omega)) ?_ | refine call_p (rank_ok (by omega) (by omega)) ?_ | refine qG_call (rank_ok (by omega) (by omega)) ?_ | refine zG_call (rank_ok (by omega) (by omega)) ?_ | refine yG_call (rank_ok (by omega) (by omega)) ?_ | refine piG_call (rank_ok (by omega) (by omega)) ?_ | refine call_p (at_ok (by omega) (by omega)) ?_ | refine qG_call (at_ok (by omega) (by omega)) ?_ | refine zG_call (at_ok (by omega) (by omega)) ?_ | refine yG_call (at_ok (by omega) (by omega)) ?_ | refine piG_call (at_ok (by omega) (by omega)) ?_ | refine call_p (left_ok h65 hf ht) ?_ | refine qG_call (left_ok h65 hf ht) ?_ | refine zG_call (left_ok h65 hf ht) ?_ | refine yG_call (left_ok h65 hf ht) ?_ | refine piG_call (left_ok h65 hf ht) ?_ | refine seq_k fun K hK => ?_) | (with_reducible refine hK _ _ ?_; clear hK) | ((with_reducible first | refine gd_dec ?_ ?_ | refine gd_ndec ?_ ?_ | refine qC_dec ?_ ?_ | refine qC_ndec ?_ ?_ | refine piC_dec ?_ ?_ | refine piC_ndec ?_ ?_ | refine zC_dec ?_ ?_ | refine zC_ndec ?_ ?_ | refine zD_dec ?_ ?_ | refine yC_dec ?_ ?_ | refine yC_ndec ?_ ?_ | refine if_dec ?_ ?_ | refine if_ndec ?_ ?_) <;> intro hh) | simp -implicitDefEqProofs (disch := first | omega | assumption) only [go_sem, ↓reduceIte, Nat.reduceEqDiff, Int.reduceEq, Nat.reduceAdd, Nat.reduceSub, Nat.reduceMul, Nat.mul_one, Nat.one_mul, List.length_nil, List.length_cons, List.nil_append, List.cons_append, List.length_append, List.set_cons_zero, List.set_cons_succ, Nat.zero_add, Nat.sub_zero, Option.isNone_none, Option.isNone_some, Int.toNat_natCast, Nat.add_sub_cancel_left, Bool.not_true, Bool.not_false, BitVec.reduceOfInt, Int.reduceToNat, pickV_T, pickV_F, onGd_T, onGd_F, sub3, wr_ints, wr_int69, upd_at, e67, e68] | ((with_reducible first | refine gd_bool ?_ ?_ | refine if_bool ?_ ?_ | refine qC_bool ?_ ?_ | refine piC_bool ?_ ?_ | refine zC_bool ?_ ?_ | refine zD_bool ?_ ?_ | refine yC_bool ?_ ?_) <;> intro hh) | clear hK)
  all_goals first
    | rfl
    | (simp [Fr.sub, Fr.get]; done)
    | (simp [upd_upd, mdEp, mdHalf, mdCast, mdProm, mdMove, mdTake, isCastle, isJump, cornerOf, *]; done)
    | (rw [show mdCast c f t p = _ from if_pos ⟨by assumption, .inl (by assumption)⟩, show cornerOf f t = _ from if_neg (by omega)]; done)
    | (rw [show mdCast c f t p = _ from if_pos ⟨by assumption, .inr (by assumption)⟩, show cornerOf f t = _ from if_pos (by omega)]; done)
end Go.Tb
end
section
namespace Go.Tb
open Go Go.Proofs
variable {z : Nat × Nat}
set_option maxRecDepth 20000
def passB (c : Nat → Int) : Bool :=
  if c 66 < 0 ∨ 63 < c 66 then decide (c 66 = -1)
  else if c 66 / 8 ≠ 5 - 3 * c 64 ∨ c (c 66).toNat ≠ 0 then false
  else decide (c (atSq (c 66 % 8) (c 66 / 8 - (1 - 2 * c 64))).toNat = 6 + 6 * (1 - c 64)) && decide (c (atSq (c 66 % 8) (c 66 / 8 + (1 - 2 * c 64))).toNat = 0)
set_option maxHeartbeats 4000000 in
theorem passed_ok (c : Nat → Int) (h64 : 0 ≤ c 64 ∧ c 64 ≤ 1) : FnP (Tz z) 62 [posV c] (.bool (passB c)) := by
  refine ⟨by simp [posV_pl], Pl.bool, start [0, 1, 2, 3, 4, 5, 13, 40] Tryz.func62 rfl (by decide) rfl (by kernel_rfl) (by simp [Tryz.f62]) ?_⟩
  simp only [Tryz.f62]
  unfold posV
  have ha := fun (h : 0 ≤ c 66 ∧ c 66 ≤ 63) (h' : c 66 / 8 = 5 - 3 * c 64) => atSq_bd (f := c 66 % 8) (r := c 66 / 8 - (1 - 2 * c 64)) (by omega) (by omega)
  have hz := fun (h : 0 ≤ c 66 ∧ c 66 ≤ 63) (h' : c 66 / 8 = 5 - 3 * c 64) => atSq_bd (f := c 66 % 8) (r := c 66 / 8 + (1 - 2 * c 64)) (by omega) (by omega)
  repeat' (first | (with_reducible first | refine draw (by kernel_rfl) (by kernel_rfl) ?_ | apply pz_e | apply pz_eg | apply py_e | refine call_p (file_ok (by omega)) ?_ | refine qG_call (file_ok (by omega)) ?_ | refine zG_call (file_ok (by omega)) ?_ | refine yG_call (file_ok (by omega)) ?_ | refine piG_call (file_ok (by omega)) ?_ | refine call_p (rank_ok (by omega) (by omega)) ?_ | refine qG_call (rank_ok (by omega) (by omega)) ?_ | refine zG_call (rank_ok (by omega) (by omega)) ?_ | refine yG_call (rank_ok (by omega) (by omega)) ?_ | refine piG_call (rank_ok (by omega) (by omega)) ?_) | (have ha1 := ha (by omega) (by omega); have hz1 := hz (by omega) (by omega); clear ha hz) | (with_reducible first | refine call_p (at_ok (by omega) (by omega)) ?_ | refine qG_call (at_ok (by omega) (by omega)) ?_ | refine zG_call (at_ok (by omega) (by omega)) ?_ | refine yG_call (at_ok (by omega) (by omega)) ?_ | refine piG_call (at_ok (by omega) (by omega)) ?_ | refine call_p (of_ok (by omega) (by omega)) ?_ | refine qG_call (of_ok (by omega) (by omega)) ?_ | refine zG_call (of_ok (by omega) (by omega)) ?_ | refine yG_call (of_ok (by omega) (by omega)) ?_ | refine piG_call (of_ok (by omega) (by omega)) ?_ | refine seq_k fun K hK => ?_) | (with_reducible refine hK _ _ ?_; clear hK) | ((with_reducible first | refine gd_dec ?_ ?_ | refine gd_ndec ?_ ?_ | refine qC_dec ?_ ?_ | refine qC_ndec ?_ ?_ | refine piC_dec ?_ ?_ | refine piC_ndec ?_ ?_ | refine zC_dec ?_ ?_ | refine zC_ndec ?_ ?_ | refine zD_dec ?_ ?_ | refine yC_dec ?_ ?_ | refine yC_ndec ?_ ?_ | refine if_dec ?_ ?_ | refine if_ndec ?_ ?_) <;> intro hh) | simp -implicitDefEqProofs (disch := first | omega | assumption) only [go_sem, ↓reduceIte, Nat.reduceEqDiff, Int.reduceEq, Nat.reduceAdd, Nat.reduceSub, Nat.reduceMul, Nat.mul_one, Nat.one_mul, List.length_nil, List.length_cons, List.nil_append, List.cons_append, List.length_append, List.set_cons_zero, List.set_cons_succ, Nat.zero_add, Nat.sub_zero, Option.isNone_none, Option.isNone_some, Int.toNat_natCast, Nat.add_sub_cancel_left, Bool.not_true, Bool.not_false, BitVec.reduceOfInt, Int.reduceToNat] | ((with_reducible first | refine gd_bool ?_ ?_ | refine if_bool ?_ ?_ | refine qC_bool ?_ ?_ | refine piC_bool ?_ ?_ | refine zC_bool ?_ ?_ | refine zD_bool ?_ ?_ | refine yC_bool ?_ ?_) <;> intro hh) | clear hK)
  all_goals first
    | (simp [passB, *]; done)
    | (simp [passB, *]; omega)
    | (have hne : ¬ c 66 < 0 := by omega
       simp [passB, *]; done)
    | (rw [passB, if_neg (by omega), if_neg (by simp [*]), decide_eq_true hh, Bool.true_and]; done)
    | (rw [passB, if_neg (by omega), if_neg (by simp [*]), decide_eq_false hh, Bool.false_and]; done)
    | (have hne : ¬ c 66 = -1 := by omega
       simp [passB, *]; done)
def befB (f t p f' t' p' : Int) : Bool := if f ≠ f' then decide (f < f') else if t ≠ t' then decide (t < t') else decide (p < p')
set_option maxHeartbeats 4000000 in
theorem before_ok (f t p f' t' p' : Int) : FnP (Tz z) 81 [mV f t p, mV f' t' p'] (.bool (befB f t p f' t' p')) := by
  refine ⟨by simp [mV_pl], Pl.bool, start [0, 1, 2, 3, 4, 9, 19] Tryz.func81 rfl (by decide) rfl (by kernel_rfl) (by simp [Tryz.f81]) ?_⟩
  simp only [Tryz.f81]
  repeat' (first | (with_reducible first | refine draw (by kernel_rfl) (by kernel_rfl) ?_ | apply pz_e | apply pz_eg | apply py_e | refine seq_k fun K hK => ?_) | (with_reducible refine hK _ _ ?_; clear hK) | ((with_reducible first | refine gd_dec ?_ ?_ | refine gd_ndec ?_ ?_ | refine qC_dec ?_ ?_ | refine qC_ndec ?_ ?_ | refine piC_dec ?_ ?_ | refine piC_ndec ?_ ?_ | refine zC_dec ?_ ?_ | refine zC_ndec ?_ ?_ | refine zD_dec ?_ ?_ | refine yC_dec ?_ ?_ | refine yC_ndec ?_ ?_ | refine if_dec ?_ ?_ | refine if_ndec ?_ ?_) <;> intro hh) | simp -implicitDefEqProofs (disch := first | omega | assumption) only [go_sem, ↓reduceIte, Nat.reduceEqDiff, Int.reduceEq, Nat.reduceAdd, Nat.reduceSub, Nat.reduceMul, Nat.mul_one, Nat.one_mul, List.length_nil, List.length_cons, List.nil_append, List.cons_append, List.length_append, List.set_cons_zero, List.set_cons_succ, Nat.zero_add, Nat.sub_zero, Option.isNone_none, Option.isNone_some, Int.toNat_natCast, Nat.add_sub_cancel_left, Bool.not_true, Bool.not_false, BitVec.reduceOfInt, Int.reduceToNat] | ((with_reducible first | refine gd_bool ?_ ?_ | refine if_bool ?_ ?_ | refine qC_bool ?_ ?_ | refine piC_bool ?_ ?_ | refine zC_bool ?_ ?_ | refine zD_bool ?_ ?_ | refine yC_bool ?_ ?_) <;> intro hh) | clear hK)
  all_goals simp [befB, *]
end Go.Tb
end
section
namespace Go.Tb
open Go Go.Proofs
variable {z : Nat × Nat}
set_option maxRecDepth 20000
def cellB (c : Nat → Int) (i : Nat) : Prop := 0 ≤ c i ∧ c i ≤ 12 ∧ (kindOf (c i) = 6 → c i ≠ 0 → (i : Int) / 8 ≠ 0 ∧ (i : Int) / 8 ≠ 7)
structure ValidC (c : Nat → Int) : Prop where
  cells : ∀ i, i < 64 → cellB c i
  turn : 0 ≤ c 64 ∧ c 64 ≤ 1
  castle : 0 ≤ c 65 ∧ c 65 ≤ 15
  half : 0 ≤ c 67
  full : 1 ≤ c 68
  white : cntI c (1 + 6 * 0) 64 = 1
  black : cntI c (1 + 6 * 1) 64 = 1
  rights : rightsN c 4 = c 65
  pass : passB c = true
  safe : attB c (kingI c (1 - c 64)) (c 64) = false
theorem cells_bd {c : Nat → Int} {k : Nat} (hk : k ≤ 64 ∧ ∀ i, i < k → cellB c i) (h : 64 ≤ k) : Bd c := fun i hi => ⟨(hk.2 i (by omega)).1, (hk.2 i (by omega)).2.1⟩
theorem kingI_of {c : Nat → Int} {s : Int} (h : cntI c (1 + 6 * s) 64 = 1) : 0 ≤ kingI c s := by
  unfold cntI countI at h
  have h1 : (List.range 64).find? (fun i => decide (c i = 1 + 6 * s)) ≠ none := by
    intro h0
    rw [List.find?_eq_none] at h0
    rw [List.filter_eq_nil_iff.2 (fun a ha => by simpa using h0 a ha)] at h
    cases h
  unfold kingI findI
  split
  · omega
  · contradiction
open Classical in
set_option maxHeartbeats 4000000 in
theorem valid_ok (c : Nat → Int) : FnP (Tz z) 35 [posV c] (.bool (decide (ValidC c))) := by
  refine ⟨by simp [posV_pl], Pl.bool, start [0, 1, 2, 3, 4, 6, 37, 65, 85] Tryz.func35 rfl (by decide) rfl (by kernel_rfl) (by simp [Tryz.f35]) ?_⟩
  simp only [Tryz.f35]
  unfold posV
  have hq : ((cntI c (1 + 6 * 0) 64 : Nat) : Int) = 1 → ((cntI c (1 + 6 * 1) 64 : Nat) : Int) = 1 → (c 64 = 0 ∨ c 64 = 1) → 0 ≤ kingI c (1 - c 64) ∧ kingI c (1 - c 64) < 64 := fun a b d => by
    refine ⟨?_, (kingI_bd _ _).2⟩
    rcases d with d | d <;> rw [d]
    · rw [show (1 : Int) - 0 = 1 from rfl]; exact kingI_of (by omega)
    · rw [show (1 : Int) - 1 = 0 from rfl]; exact kingI_of (by omega)
  repeat' (first | (with_reducible first | refine loop (V := [0, 1, 2, 3, 4, 6, 37, 65, 85]) (fun k : Nat => ([(1, .pointer (some ⟨100, 0, none⟩)), (3, .int .i64 k)], [.cells (ints .i64 69 c) 24])) (fun k => k ≤ 64 ∧ ∀ i, i < k → cellB c i) (fun k => 64 - k) 0 (by kernel_rfl) ?_ ?_ (fun k hk => ?_) | refine call_p (kindOf_ok (by omega) (by omega)) ?_ | refine qG_call (kindOf_ok (by omega) (by omega)) ?_ | refine zG_call (kindOf_ok (by omega) (by omega)) ?_ | refine yG_call (kindOf_ok (by omega) (by omega)) ?_ | refine piG_call (kindOf_ok (by omega) (by omega)) ?_ | refine call_p (rank_ok (by omega) (by omega)) ?_ | refine qG_call (rank_ok (by omega) (by omega)) ?_ | refine zG_call (rank_ok (by omega) (by omega)) ?_ | refine yG_call (rank_ok (by omega) (by omega)) ?_ | refine piG_call (rank_ok (by omega) (by omega)) ?_ | refine draw (by kernel_rfl) (by kernel_rfl) ?_ | apply pz_e | apply pz_eg | apply py_e | refine call_p (count_ok c (by omega) (by omega)) ?_ | refine qG_call (count_ok c (by omega) (by omega)) ?_ | refine zG_call (count_ok c (by omega) (by omega)) ?_ | refine yG_call (count_ok c (by omega) (by omega)) ?_ | refine piG_call (count_ok c (by omega) (by omega)) ?_ | refine call_p (rights_ok c (by omega)) ?_ | refine qG_call (rights_ok c (by omega)) ?_ | refine zG_call (rights_ok c (by omega)) ?_ | refine yG_call (rights_ok c (by omega)) ?_ | refine piG_call (rights_ok c (by omega)) ?_ | refine call_p (passed_ok c (by omega)) ?_ | refine qG_call (passed_ok c (by omega)) ?_ | refine zG_call (passed_ok c (by omega)) ?_ | refine yG_call (passed_ok c (by omega)) ?_ | refine piG_call (passed_ok c (by omega)) ?_ | refine call_p (kingAt_ok c (by omega)) ?_ | refine qG_call (kingAt_ok c (by omega)) ?_ | refine zG_call (kingAt_ok c (by omega)) ?_ | refine yG_call (kingAt_ok c (by omega)) ?_ | refine piG_call (kingAt_ok c (by omega)) ?_ | refine call_p (attacked_ok c (by omega) (hq (by omega) (by omega) (by omega)) (cells_bd hk (by omega))) ?_ | refine qG_call (attacked_ok c (by omega) (hq (by omega) (by omega) (by omega)) (cells_bd hk (by omega))) ?_ | refine zG_call (attacked_ok c (by omega) (hq (by omega) (by omega) (by omega)) (cells_bd hk (by omega))) ?_ | refine yG_call (attacked_ok c (by omega) (hq (by omega) (by omega) (by omega)) (cells_bd hk (by omega))) ?_ | refine piG_call (attacked_ok c (by omega) (hq (by omega) (by omega) (by omega)) (cells_bd hk (by omega))) ?_ | refine seq_k fun K hK => ?_) | (with_reducible refine hK _ _ ?_; clear hK) | ((with_reducible first | refine gd_dec ?_ ?_ | refine gd_ndec ?_ ?_ | refine qC_dec ?_ ?_ | refine qC_ndec ?_ ?_ | refine piC_dec ?_ ?_ | refine piC_ndec ?_ ?_ | refine zC_dec ?_ ?_ | refine zC_ndec ?_ ?_ | refine zD_dec ?_ ?_ | refine yC_dec ?_ ?_ | refine yC_ndec ?_ ?_ | refine if_dec ?_ ?_ | refine if_ndec ?_ ?_) <;> intro hh) | simp -implicitDefEqProofs (disch := first | omega | assumption) only [go_sem, ↓reduceIte, Nat.reduceEqDiff, Int.reduceEq, Nat.reduceAdd, Nat.reduceSub, Nat.reduceMul, Nat.mul_one, Nat.one_mul, List.length_nil, List.length_cons, List.nil_append, List.cons_append, List.length_append, List.set_cons_zero, List.set_cons_succ, Nat.zero_add, Nat.sub_zero, Option.isNone_none, Option.isNone_some, Int.toNat_natCast, Nat.add_sub_cancel_left, Bool.not_true, Bool.not_false, BitVec.reduceOfInt, Int.reduceToNat] | ((with_reducible first | refine gd_bool ?_ ?_ | refine if_bool ?_ ?_ | refine qC_bool ?_ ?_ | refine piC_bool ?_ ?_ | refine zC_bool ?_ ?_ | refine zD_bool ?_ ?_ | refine yC_bool ?_ ?_) <;> intro hh) | clear hK)
  all_goals first
    | exact ⟨by omega, fun i hi => by omega⟩
    | exact VS.sub (by simp [Fr.sub, Fr.get])
    | exact ⟨k + 1, ⟨by omega, all_succ hk.2 (by unfold cellB; omega)⟩, by omega, VS.sub (by simp [Fr.sub, Fr.get])⟩
    | (refine congrArg Value.bool (decide_eq_false (fun hv => ?_)).symm
       have v1 := hv.turn
       have v2 := hv.castle
       have v3 := hv.half
       have v4 := hv.full
       have v5 := hv.white
       have v6 := hv.black
       have v7 := hv.rights
       have v8 := hv.pass
       first
         | omega
         | (rw [v8] at hh; cases hh)
         | (have v9 := hv.cells k (by omega)
            unfold cellB at v9
            omega))
    | (refine congrArg Value.bool ?_
       cases ha : attB c (kingI c (1 - c 64)) (c 64) with
       | true => exact (decide_eq_false (fun hv => by rw [hv.safe] at ha; cases ha)).symm
       | false => exact (decide_eq_true (ValidC.mk (fun i hi => hk.2 i (by omega)) (by omega) (by omega) (by omega) (by omega) (by omega) (by omega) (by assumption) (by cases hp : passB c <;> simp_all) ha)).symm)
end Go.Tb
end
section
namespace Go.Tb
open Go Go.Proofs
set_option maxRecDepth 20000
theorem neg_bit : ∀ i : Fin 64, ∀ t : Fin 64, (-(2#64 * (1#64 <<< i.val))).getLsbD t.val = decide (i.val < t.val) := by decide +kernel
def btwB (x : BitVec 64) (i t : Nat) : Bool := (List.range t).any fun k => decide (i < k) && x.getLsbD k
theorem btwB_succ (x : BitVec 64) (i t : Nat) : btwB x i (t + 1) = (btwB x i t || (decide (i < t) && x.getLsbD t)) := by
  simp [btwB, List.range_succ]
theorem btwB_le {x : BitVec 64} {i : Nat} : ∀ {t : Nat}, t ≤ i + 1 → btwB x i t = false
  | 0, _ => rfl
  | t + 1, h => by rw [btwB_succ, btwB_le (by omega), decide_eq_false (by omega)]; rfl
theorem carry_btw (x : BitVec 64) {i : Nat} (hi : i < 64) : ∀ t, t ≤ 64 → BitVec.carry t x (-(2#64 * (1#64 <<< i))) false = btwB x i t
  | 0, _ => by simp [btwB, BitVec.carry_zero]
  | t + 1, h => by
    rw [BitVec.carry_succ, carry_btw x hi t (by omega), neg_bit ⟨i, hi⟩ ⟨t, by omega⟩, btwB_succ]
    show Bool.atLeastTwo _ (decide (i < t)) _ = _
    by_cases h1 : i < t
    · rw [decide_eq_true h1]; cases x.getLsbD t <;> cases btwB x i t <;> rfl
    · rw [decide_eq_false h1, btwB_le (by omega)]; simp [Bool.atLeastTwo]
theorem sub_bit (x : BitVec 64) {i t : Nat} (hi : i < 64) (ht : t < 64) : (x - 2#64 * (1#64 <<< i)).getLsbD t = (x.getLsbD t ^^ (decide (i < t) && !btwB x i t)) := by
  rw [BitVec.sub_eq_add_neg, BitVec.getLsbD_add ht, carry_btw x hi t (by omega), neg_bit ⟨i, hi⟩ ⟨t, ht⟩]
  show (_ ^^ (decide (i < t) ^^ _)) = _
  by_cases h1 : i < t
  · rw [decide_eq_true h1]; cases x.getLsbD t <;> cases btwB x i t <;> rfl
  · rw [decide_eq_false h1, btwB_le (by omega)]; rfl
def swK (n k : Nat) : Nat := if k / n % 2 = 0 then k + n else k - n
theorem sw_bit (x m : BitVec 64) {n k : Nat} (hn : 0 < n) (hk : k < 64) (hm : ∀ k, k < 64 → m.getLsbD k = decide (k / n % 2 = 0)) :
    ((x >>> n &&& m) ||| (x &&& m) <<< n).getLsbD k = x.getLsbD (swK n k) := by
  simp only [BitVec.getLsbD_or, BitVec.getLsbD_and, BitVec.getLsbD_ushiftRight, BitVec.getLsbD_shiftLeft, hk, decide_true, Bool.true_and]
  rw [hm k hk]
  unfold swK
  by_cases h : k / n % 2 = 0
  · rw [if_pos h, decide_eq_true h, Bool.and_true, Nat.add_comm n k]
    by_cases h2 : k < n
    · simp [h2]
    · have h3 : (k - n) / n % 2 ≠ 0 := by
        have : k / n = (k - n) / n + 1 := by rw [← Nat.add_div_right _ hn]; congr 1; omega
        omega
      rw [hm (k - n) (by omega), decide_eq_false h3]; simp
  · have hkn : n ≤ k := by
      rcases Nat.lt_or_ge k n with h1 | h1
      · rw [Nat.div_eq_of_lt h1] at h; exact absurd rfl h
      · exact h1
    have h3 : (k - n) / n % 2 = 0 := by
      have : k / n = (k - n) / n + 1 := by rw [← Nat.add_div_right _ hn]; congr 1; omega
      omega
    rw [if_neg h, decide_eq_false h, hm (k - n) (by omega), decide_eq_true h3]; simp; omega
theorem sw_last (x : BitVec 64) {k : Nat} (hk : k < 64) : (x >>> 32 ||| x <<< 32).getLsbD k = x.getLsbD (swK 32 k) := by
  simp only [BitVec.getLsbD_or, BitVec.getLsbD_ushiftRight, BitVec.getLsbD_shiftLeft, hk, decide_true, Bool.true_and]
  unfold swK
  by_cases h : k < 32
  · rw [if_pos (by omega), Nat.add_comm 32 k]; simp [h]
  · rw [if_neg (by omega), BitVec.getLsbD_of_ge x (32 + k) (by omega)]; simp [h]
theorem swK_all : ∀ k : Fin 64, swK 1 (swK 2 (swK 4 (swK 8 (swK 16 (swK 32 k.val))))) = 63 - k.val ∧ swK 32 k.val < 64 ∧ swK 16 (swK 32 k.val) < 64 ∧ swK 8 (swK 16 (swK 32 k.val)) < 64 ∧ swK 4 (swK 8 (swK 16 (swK 32 k.val))) < 64 ∧ swK 2 (swK 4 (swK 8 (swK 16 (swK 32 k.val)))) < 64 := by decide +kernel
theorem msk1 : ∀ k, k < 64 → (6148914691236517205#64).getLsbD k = decide (k / 1 % 2 = 0) := fun k h => (by decide +kernel : ∀ k : Fin 64, (6148914691236517205#64).getLsbD k.val = decide (k.val / 1 % 2 = 0)) ⟨k, h⟩
theorem msk2 : ∀ k, k < 64 → (3689348814741910323#64).getLsbD k = decide (k / 2 % 2 = 0) := fun k h => (by decide +kernel : ∀ k : Fin 64, (3689348814741910323#64).getLsbD k.val = decide (k.val / 2 % 2 = 0)) ⟨k, h⟩
theorem msk4 : ∀ k, k < 64 → (1085102592571150095#64).getLsbD k = decide (k / 4 % 2 = 0) := fun k h => (by decide +kernel : ∀ k : Fin 64, (1085102592571150095#64).getLsbD k.val = decide (k.val / 4 % 2 = 0)) ⟨k, h⟩
theorem msk8 : ∀ k, k < 64 → (71777214294589695#64).getLsbD k = decide (k / 8 % 2 = 0) := fun k h => (by decide +kernel : ∀ k : Fin 64, (71777214294589695#64).getLsbD k.val = decide (k.val / 8 % 2 = 0)) ⟨k, h⟩
theorem msk16 : ∀ k, k < 64 → (281470681808895#64).getLsbD k = decide (k / 16 % 2 = 0) := fun k h => (by decide +kernel : ∀ k : Fin 64, (281470681808895#64).getLsbD k.val = decide (k.val / 16 % 2 = 0)) ⟨k, h⟩
theorem rev_bit (x : BitVec 64) {k : Nat} (hk : k < 64) : (rev64 x).getLsbD k = x.getLsbD (63 - k) := by
  obtain ⟨h0, h1, h2, h3, h4, h5⟩ := swK_all ⟨k, hk⟩
  simp only at h0 h1 h2 h3 h4 h5
  simp only [rev64, revBytes]
  rw [sw_last _ hk, sw_bit _ _ (by decide) h1 msk16, sw_bit _ _ (by decide) h2 msk8, sw_bit _ _ (by decide) h3 msk4, sw_bit _ _ (by decide) h4 msk2, sw_bit _ _ (by decide) h5 msk1, h0]
theorem rev_one : ∀ i : Fin 64, rev64 (1#64 <<< i.val) = 1#64 <<< (63 - i.val) := by decide +kernel
def betw (x : BitVec 64) (i t : Nat) : Bool := if i < t then btwB x i t else btwB x t i
theorem btwB_rev (x : BitVec 64) {i t : Nat} (hi : i < 64) (ht : t < 64) : btwB (rev64 x) (63 - i) (63 - t) = btwB x t i := by
  rw [Bool.eq_iff_iff]
  simp only [btwB, List.any_eq_true, List.mem_range, Bool.and_eq_true, decide_eq_true_eq]
  constructor
  · rintro ⟨k, h1, h2, h3⟩
    rw [rev_bit x (by omega)] at h3
    exact ⟨63 - k, by omega, by omega, h3⟩
  · rintro ⟨k, h1, h2, h3⟩
    refine ⟨63 - k, by omega, by omega, ?_⟩
    rw [rev_bit x (by omega), show 63 - (63 - k) = k by omega]; exact h3
theorem lin_bit (o m : BitVec 64) {i t : Nat} (hi : i < 64) (ht : t < 64) : (linB o (1#64 <<< i) m).getLsbD t = (m.getLsbD t && decide (i ≠ t) && !betw (o &&& m) i t) := by
  unfold linB
  rw [BitVec.getLsbD_and, BitVec.getLsbD_xor, sub_bit _ hi ht, rev_bit _ ht, rev_one ⟨i, hi⟩]
  rw [sub_bit _ (by omega : 63 - i < 64) (by omega : 63 - t < 64), rev_bit _ (by omega), btwB_rev _ hi ht, show 63 - (63 - t) = t by omega]
  unfold betw
  rcases Nat.lt_trichotomy i t with h | h | h
  · rw [if_pos h, decide_eq_true h, decide_eq_false (by omega : ¬ 63 - i < 63 - t), decide_eq_true (by omega : i ≠ t)]
    cases m.getLsbD t <;> cases (o &&& m).getLsbD t <;> cases btwB (o &&& m) i t <;> rfl
  · subst h; simp
  · rw [if_neg (by omega), decide_eq_false (by omega : ¬ i < t), decide_eq_true (by omega : 63 - i < 63 - t), decide_eq_true (by omega : i ≠ t)]
    cases m.getLsbD t <;> cases (o &&& m).getLsbD t <;> cases btwB (o &&& m) t i <;> rfl
def onL : Nat → Nat → Nat → Bool
  | 0, s, t => decide (s / 8 = t / 8)
  | 1, s, t => decide (s % 8 = t % 8)
  | 2, s, t => decide (s % 8 + t / 8 = t % 8 + s / 8)
  | _, s, t => decide (s % 8 + s / 8 = t % 8 + t / 8)
theorem sgn_p {n : Int} (h : 0 < n) : sgn n = 1 := by unfold sgn; rw [if_neg (by omega), if_pos h]
theorem sgn_n {n : Int} (h : n < 0) : sgn n = -1 := by unfold sgn; rw [if_pos h]
theorem ray_mem {y : Nat} {s t u : Nat} (hy : y < 4) (hs : s < 64) (ht : t < 64) (hl : onL y s t = true) (hn : s ≠ t) :
    (u < 64 ∧ onL y s u = true ∧ ((s < u ∧ u < t) ∨ (t < u ∧ u < s))) ↔ ∃ k : Nat, 1 ≤ k ∧ k < distOf s t ∧ (u : Int) = s + k * wayOf s t := by
  have key : ∀ w d : Int, wayOf s t = w → (distOf s t : Int) = d → ((u < 64 ∧ onL y s u = true ∧ ((s < u ∧ u < t) ∨ (t < u ∧ u < s))) ↔ ∃ k : Nat, 1 ≤ k ∧ (k : Int) < d ∧ (u : Int) = s + k * w) → ((u < 64 ∧ onL y s u = true ∧ ((s < u ∧ u < t) ∨ (t < u ∧ u < s))) ↔ ∃ k : Nat, 1 ≤ k ∧ k < distOf s t ∧ (u : Int) = s + k * wayOf s t) := fun w d e1 e2 h => by
    rw [h]
    constructor
    · rintro ⟨k, a, b, c⟩; exact ⟨k, a, by omega, by rw [e1]; exact c⟩
    · rintro ⟨k, a, b, c⟩; exact ⟨k, a, by omega, by rw [e1] at c; exact c⟩
  have hdis : (distOf s t : Int) = max (((t : Int) % 8 - s % 8).natAbs : Int) (((t : Int) / 8 - s / 8).natAbs : Int) := by unfold distOf fdif rdif; omega
  rcases y with _ | _ | _ | _ | y
  · simp only [onL, decide_eq_true_eq] at hl key ⊢
    rcases Nat.lt_or_ge s t with h | h
    · refine key 1 (t - s) ?_ (by omega) ?_; rotate_left; (clear hdis key; exact ⟨fun ⟨h1, h2, h3⟩ => ⟨u - s, by omega, by omega, by omega⟩, fun ⟨k, h1, h2, h3⟩ => by omega⟩)
      unfold wayOf; rw [sgn_p (by unfold fdif; omega), show rdif s t = 0 by unfold rdif; omega]; rfl
    · refine key (-1) (s - t) ?_ (by omega) ?_; rotate_left; (clear hdis key; exact ⟨fun ⟨h1, h2, h3⟩ => ⟨s - u, by omega, by omega, by omega⟩, fun ⟨k, h1, h2, h3⟩ => by omega⟩)
      unfold wayOf; rw [sgn_n (by unfold fdif; omega), show rdif s t = 0 by unfold rdif; omega]; rfl
  · simp only [onL, decide_eq_true_eq] at hl key ⊢
    rcases Nat.lt_or_ge s t with h | h
    · refine key 8 (t / 8 - s / 8) ?_ (by omega) ?_; rotate_left; (clear hdis key; exact ⟨fun ⟨h1, h2, h3⟩ => ⟨u / 8 - s / 8, by omega, by omega, by omega⟩, fun ⟨k, h1, h2, h3⟩ => by omega⟩)
      unfold wayOf; rw [sgn_p (n := rdif s t) (by unfold rdif; omega), show fdif s t = 0 by unfold fdif; omega]; rfl
    · refine key (-8) (s / 8 - t / 8) ?_ (by omega) ?_; rotate_left; (clear hdis key; exact ⟨fun ⟨h1, h2, h3⟩ => ⟨s / 8 - u / 8, by omega, by omega, by omega⟩, fun ⟨k, h1, h2, h3⟩ => by omega⟩)
      unfold wayOf; rw [sgn_n (n := rdif s t) (by unfold rdif; omega), show fdif s t = 0 by unfold fdif; omega]; rfl
  · simp only [onL, decide_eq_true_eq] at hl key ⊢
    rcases Nat.lt_or_ge s t with h | h
    · refine key 9 (t / 8 - s / 8) ?_ (by omega) ?_; rotate_left; (clear hdis key; exact ⟨fun ⟨h1, h2, h3⟩ => ⟨u / 8 - s / 8, by omega, by omega, by omega⟩, fun ⟨k, h1, h2, h3⟩ => by omega⟩)
      unfold wayOf; rw [sgn_p (n := rdif s t) (by unfold rdif; omega), sgn_p (n := fdif s t) (by unfold fdif; omega)]; rfl
    · refine key (-9) (s / 8 - t / 8) ?_ (by omega) ?_; rotate_left; (clear hdis key; exact ⟨fun ⟨h1, h2, h3⟩ => ⟨s / 8 - u / 8, by omega, by omega, by omega⟩, fun ⟨k, h1, h2, h3⟩ => by omega⟩)
      unfold wayOf; rw [sgn_n (n := rdif s t) (by unfold rdif; omega), sgn_n (n := fdif s t) (by unfold fdif; omega)]; rfl
  · simp only [onL, decide_eq_true_eq] at hl key ⊢
    rcases Nat.lt_or_ge s t with h | h
    · refine key 7 (t / 8 - s / 8) ?_ (by omega) ?_; rotate_left; (clear hdis key; exact ⟨fun ⟨h1, h2, h3⟩ => ⟨u / 8 - s / 8, by omega, by omega, by omega⟩, fun ⟨k, h1, h2, h3⟩ => by omega⟩)
      unfold wayOf; rw [sgn_p (n := rdif s t) (by unfold rdif; omega), sgn_n (n := fdif s t) (by unfold fdif; omega)]; rfl
    · refine key (-7) (s / 8 - t / 8) ?_ (by omega) ?_; rotate_left; (clear hdis key; exact ⟨fun ⟨h1, h2, h3⟩ => ⟨s / 8 - u / 8, by omega, by omega, by omega⟩, fun ⟨k, h1, h2, h3⟩ => by omega⟩)
      unfold wayOf; rw [sgn_n (n := rdif s t) (by unfold rdif; omega), sgn_p (n := fdif s t) (by unfold fdif; omega)]; rfl
  · omega
theorem onL_0 {s t : Nat} : onL 0 s t = true ↔ rdif s t = 0 := by simp only [onL, decide_eq_true_eq, rdif]; omega
theorem onL_1 {s t : Nat} : onL 1 s t = true ↔ fdif s t = 0 := by simp only [onL, decide_eq_true_eq, fdif]; omega
theorem onL_2 {s t : Nat} : onL 2 s t = true ↔ fdif s t = rdif s t := by simp only [onL, decide_eq_true_eq, fdif, rdif]; omega
theorem onL_3 {s t : Nat} : onL 3 s t = true ↔ fdif s t = -rdif s t := by simp only [onL, decide_eq_true_eq, fdif, rdif]; omega
theorem onL_ray {y s t : Nat} (hy : y < 4) (h : onL y s t = true) : onRay s t := by
  unfold onRay
  rcases y with _ | _ | _ | _ | y
  · exact .inr (.inl (onL_0.1 h))
  · exact .inl (onL_1.1 h)
  · exact .inr (.inr (.inl (onL_2.1 h)))
  · exact .inr (.inr (.inr (onL_3.1 h)))
  · omega
theorem onL_sym {y s t : Nat} (hy : y < 4) (h : onL y s t = true) : onL y t s = true := by
  rcases y with _ | _ | _ | _ | y <;> simp only [onL, decide_eq_true_eq] at h ⊢ <;> omega
theorem onL_tr {y s t u : Nat} (hy : y < 4) (h : onL y s t = true) (h2 : onL y t u = true) : onL y s u = true := by
  rcases y with _ | _ | _ | _ | y <;> simp only [onL, decide_eq_true_eq] at h h2 ⊢ <;> omega
theorem tab_dia : ∀ s t : Fin 64, occB (tabB bbDiagonals s.val) t.val = onL 2 s.val t.val := by decide +kernel
theorem tab_anti : ∀ s t : Fin 64, occB (tabB bbAntiDiagonals s.val) t.val = onL 3 s.val t.val := by decide +kernel
theorem tab_rank : ∀ s t : Fin 64, occB (tabB bbRanks (s.val / 8)) t.val = onL 0 s.val t.val := by decide +kernel
theorem tab_file : ∀ s t : Fin 64, occB (tabB bbFiles (s.val % 8)) t.val = onL 1 s.val t.val := by decide +kernel
theorem tab_knight : ∀ s t : Fin 64, occB (tabB bbKnightMoves s.val) t.val = decide (fdif s.val t.val * fdif s.val t.val + rdif s.val t.val * rdif s.val t.val = 5) := by decide +kernel
theorem tab_king : ∀ s t : Fin 64, occB (tabB bbKingMoves s.val) t.val = (decide (s.val ≠ t.val) && decide (fdif s.val t.val * fdif s.val t.val ≤ 1) && decide (rdif s.val t.val * rdif s.val t.val ≤ 1)) := by decide +kernel
theorem occ_nat (x : BitVec 64) {s : Nat} (h : s < 64) : occB x s = x.getLsbD (63 - s) := by
  unfold occB; congr 1; omega
theorem sqB_nat {s : Nat} (h : s < 64) : sqB s = 1#64 <<< (63 - s) := by
  unfold sqB; congr 1; omega
theorem betw_iff (x : BitVec 64) {s t : Nat} (hs : s < 64) (ht : t < 64) : betw x (63 - s) (63 - t) = true ↔ ∃ u : Nat, u < 64 ∧ ((s < u ∧ u < t) ∨ (t < u ∧ u < s)) ∧ occB x u = true := by
  unfold betw
  split
  · simp only [btwB, List.any_eq_true, List.mem_range, Bool.and_eq_true, decide_eq_true_eq]
    constructor
    · rintro ⟨k, h1, h2, h3⟩
      refine ⟨63 - k, by omega, by omega, ?_⟩
      rw [occ_nat _ (by omega), show 63 - (63 - k) = k by omega]; exact h3
    · rintro ⟨u, h1, h2, h3⟩
      rw [occ_nat _ h1] at h3
      exact ⟨63 - u, by omega, by omega, h3⟩
  · simp only [btwB, List.any_eq_true, List.mem_range, Bool.and_eq_true, decide_eq_true_eq]
    constructor
    · rintro ⟨k, h1, h2, h3⟩
      refine ⟨63 - k, by omega, by omega, ?_⟩
      rw [occ_nat _ (by omega), show 63 - (63 - k) = k by omega]; exact h3
    · rintro ⟨u, h1, h2, h3⟩
      rw [occ_nat _ h1] at h3
      exact ⟨63 - u, by omega, by omega, h3⟩
theorem occ_and (x y : BitVec 64) (s : Int) : occB (x &&& y) s = (occB x s && occB y s) := by simp [occB]
theorem occ_or (x y : BitVec 64) (s : Int) : occB (x ||| y) s = (occB x s || occB y s) := by simp [occB]
theorem occ_not (x : BitVec 64) {s : Nat} (h : s < 64) : occB (~~~x) s = !occB x s := by
  rw [occ_nat _ h, occ_nat _ h, BitVec.getLsbD_not]; simp; omega
theorem occ_ext {x y : BitVec 64} (h : ∀ s : Nat, s < 64 → occB x s = occB y s) : x = y := by
  apply BitVec.eq_of_getLsbD_eq
  intro i hi
  have := h (63 - i) (by omega)
  rw [occ_nat _ (by omega), occ_nat _ (by omega), show 63 - (63 - i) = i by omega] at this
  exact this
theorem occ_zero (s : Int) : occB 0#64 s = false := by simp [occB]
theorem occ_sq {s t : Nat} (hs : s < 64) (ht : t < 64) : occB (sqB s) t = decide (s = t) := by
  rw [occ_nat _ ht, sqB_nat hs]
  have : ∀ i j : Fin 64, (1#64 <<< i.val).getLsbD j.val = decide (i.val = j.val) := by decide +kernel
  rw [this ⟨63 - s, by omega⟩ ⟨63 - t, by omega⟩]
  exact decide_eq_decide.2 (by simp only; omega)
theorem z_iff {x : BitVec 64} : x = 0#64 ↔ ∀ s : Nat, s < 64 → occB x s = false :=
  ⟨fun h s _ => by rw [h, occ_zero], fun h => occ_ext fun s hs => by rw [h s hs, occ_zero]⟩
theorem nz_and {x y : BitVec 64} : (!decide (x &&& y = 0#64)) = true ↔ ∃ s : Nat, s < 64 ∧ occB x s = true ∧ occB y s = true := by
  rw [Bool.not_eq_true', decide_eq_false_iff_not, z_iff]
  constructor
  · intro h
    refine Classical.byContradiction fun h0 => h fun s hs => ?_
    cases hx : occB (x &&& y) s
    · rfl
    · rw [occ_and, Bool.and_eq_true] at hx
      exact absurd ⟨s, hs, hx⟩ h0
  · rintro ⟨s, hs, h1, h2⟩ h
    have := h s hs
    rw [occ_and, h1, h2] at this; cases this
theorem line_iff {c : Nat → Int} {o m : BitVec 64} {y s t : Nat} (hy : y < 4) (hs : s < 64) (ht : t < 64) (ho : ∀ u : Nat, u < 64 → occB o u = decide (c u ≠ 0)) (hm : ∀ u : Nat, u < 64 → occB m u = onL y s u) :
    occB (linB o (sqB s) m) t = true ↔ onL y s t = true ∧ s ≠ t ∧ clearP c s t (distOf s t) := by
  rw [occ_nat _ ht, sqB_nat hs, lin_bit o m (by omega) (by omega), Bool.and_eq_true, Bool.and_eq_true, decide_eq_true_eq, Bool.not_eq_true', ← occ_nat _ ht, hm t ht]
  constructor
  · rintro ⟨⟨h1, h2⟩, h3⟩
    have hn : s ≠ t := by omega
    refine ⟨h1, hn, fun k k1 k2 => ?_⟩
    have hr := ray (i := s) (j := t) (by omega) (by omega) (onL_ray hy h1) (by omega) k (by omega)
    obtain ⟨u, hu⟩ : ∃ u : Nat, (u : Int) = s + k * wayOf s t := ⟨((s : Int) + k * wayOf s t).toNat, by omega⟩
    obtain ⟨q1, q2, q3⟩ := (ray_mem (u := u) hy hs ht h1 hn).2 ⟨k, k1, k2, hu⟩
    rw [← hu, Int.toNat_natCast]
    refine Classical.byContradiction fun hc => ?_
    have : betw (o &&& m) (63 - s) (63 - t) = true := (betw_iff _ hs ht).2 ⟨u, q1, q3, by rw [occ_and, ho u q1, hm u q1, q2, decide_eq_true hc]; rfl⟩
    rw [h3] at this; cases this
  · rintro ⟨h1, hn, h3⟩
    refine ⟨⟨h1, by omega⟩, ?_⟩
    cases hb : betw (o &&& m) (63 - s) (63 - t)
    · rfl
    · obtain ⟨u, q1, q2, q3⟩ := (betw_iff _ hs ht).1 hb
      rw [occ_and, ho u q1, hm u q1, Bool.and_eq_true, decide_eq_true_eq] at q3
      obtain ⟨k, k1, k2, k3⟩ := (ray_mem (u := u) hy hs ht h1 hn).1 ⟨q1, q3.2, q2⟩
      have := h3 k k1 k2
      rw [← k3, Int.toNat_natCast] at this
      exact absurd this q3.1
theorem clear_sym {c : Nat → Int} {y s t : Nat} (hy : y < 4) (hs : s < 64) (ht : t < 64) (h1 : onL y s t = true) (hn : s ≠ t) (h : clearP c s t (distOf s t)) : clearP c t s (distOf t s) := by
  intro k k1 k2
  have h1' := onL_sym hy h1
  have hr := ray (i := t) (j := s) (by omega) (by omega) (onL_ray hy h1') (by omega) k (by omega)
  obtain ⟨u, hu⟩ : ∃ u : Nat, (u : Int) = t + k * wayOf t s := ⟨((t : Int) + k * wayOf t s).toNat, by omega⟩
  obtain ⟨q1, q2, q3⟩ := (ray_mem (u := u) hy ht hs h1' (by omega)).2 ⟨k, k1, k2, hu⟩
  obtain ⟨k', a, b, e⟩ := (ray_mem (u := u) hy hs ht h1 hn).1 ⟨q1, onL_tr hy h1 q2, by omega⟩
  rw [← hu, e]; exact h k' a b
theorem hv_iff {c : Nat → Int} {o : BitVec 64} {s t : Nat} (hs : s < 64) (ht : t < 64) (ho : ∀ u : Nat, u < 64 → occB o u = decide (c u ≠ 0)) :
    occB (hvB o s) t = true ↔ (fdif s t = 0 ∨ rdif s t = 0) ∧ s ≠ t ∧ clearP c s t (distOf s t) := by
  unfold hvB
  rw [show ((s : Int) / 8).toNat = s / 8 by omega, show ((s : Int) % 8).toNat = s % 8 by omega, occ_or, Bool.or_eq_true,
    line_iff (y := 0) (by decide) hs ht ho (fun u hu => tab_rank ⟨s, hs⟩ ⟨u, hu⟩), line_iff (y := 1) (by decide) hs ht ho (fun u hu => tab_file ⟨s, hs⟩ ⟨u, hu⟩), onL_0, onL_1]
  constructor
  · rintro (⟨a, b⟩ | ⟨a, b⟩)
    · exact ⟨.inr a, b⟩
    · exact ⟨.inl a, b⟩
  · rintro ⟨a | a, b⟩
    · exact .inr ⟨a, b⟩
    · exact .inl ⟨a, b⟩
theorem dia_iff {c : Nat → Int} {o : BitVec 64} {s t : Nat} (hs : s < 64) (ht : t < 64) (ho : ∀ u : Nat, u < 64 → occB o u = decide (c u ≠ 0)) :
    occB (diaB o s) t = true ↔ (fdif s t = rdif s t ∨ fdif s t = -rdif s t) ∧ s ≠ t ∧ clearP c s t (distOf s t) := by
  unfold diaB
  rw [Int.toNat_natCast, occ_or, Bool.or_eq_true,
    line_iff (y := 2) (by decide) hs ht ho (fun u hu => tab_dia ⟨s, hs⟩ ⟨u, hu⟩), line_iff (y := 3) (by decide) hs ht ho (fun u hu => tab_anti ⟨s, hs⟩ ⟨u, hu⟩), onL_2, onL_3]
  constructor
  · rintro (⟨a, b⟩ | ⟨a, b⟩)
    · exact ⟨.inl a, b⟩
    · exact ⟨.inr a, b⟩
  · rintro ⟨a | a, b⟩
    · exact .inl ⟨a, b⟩
    · exact .inr ⟨a, b⟩
end Go.Tb
end
