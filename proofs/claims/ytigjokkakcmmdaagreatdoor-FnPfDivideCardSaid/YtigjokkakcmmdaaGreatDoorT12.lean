/-
  A part of the proof (my own): of the texts that the claim's last text rests on: parts A1, A2, A3, B5, B7.
-/
import Derived.Test.YtigjokkakcmmdaaGreatDoorT08
import Derived.Test.YtigjokkakcmmdaaGreatDoorT09
import Derived.Test.YtigjokkakcmmdaaGreatDoorT11
set_option linter.unusedSimpArgs false
set_option linter.unusedVariables false
section
namespace Go.Tb
open Go Go.Proofs
variable {z : Nat × Nat}
abbrev posV (c : Nat → Int) : Value := .agg (ints .i64 69 c).toArray
theorem posV_pl (c : Nat → Int) : Pl (posV c) := Pl.agg (ints_pl _ _ _)
def kindOf (n : Int) : Int := if n > 6 then n - 6 else n
def sideOf (n : Int) : Int := if n > 6 then 1 else 0
def upOf (s : Int) : Int := 1 - 2 * s
def sgn (n : Int) : Int := if n < 0 then -1 else if n > 0 then 1 else 0
def atSq (f r : Int) : Int := if f < 0 ∨ f > 7 ∨ r < 0 ∨ r > 7 then -1 else 8 * r + f
theorem kindOf_ok {n : Int} (h0 : 0 ≤ n) (h1 : n ≤ 12) : FnP (Tz z) 31 [.int .i64 n] (.int .i64 (kindOf n)) := by
  refine ⟨by simp [Pl.int], Pl.int, start [0, 2, 4] Tryz.func31 rfl (by decide) rfl (by kernel_rfl) (by simp [Tryz.f31]) ?_⟩
  simp only [Tryz.f31]
  repeat' (first | with_reducible refine seq_k fun K hK => ?_ | (with_reducible refine hK _ _ ?_; clear hK) | ((with_reducible first | refine gd_dec ?_ ?_ | refine gd_ndec ?_ ?_ | refine if_dec ?_ ?_ | refine if_ndec ?_ ?_) <;> intro h) | simp -implicitDefEqProofs (disch := omega) only [go_sem, ↓reduceIte, Nat.reduceEqDiff, Int.reduceEq, Nat.reduceAdd, Nat.reduceSub, Nat.reduceMul, Nat.mul_one, Nat.one_mul, List.length_nil, List.length_cons, List.nil_append, List.cons_append, List.length_append, List.set_cons_zero, List.set_cons_succ, Nat.zero_add, Int.toNat_natCast, Bool.not_true, Bool.not_false] | ((with_reducible first | refine gd_bool ?_ ?_ | refine if_bool ?_ ?_) <;> intro h) | clear hK)
  · rw [kindOf, if_pos h]
  · rw [kindOf, if_neg h]
theorem sideOf_ok {n : Int} : FnP (Tz z) 52 [.int .i64 n] (.int .i64 (sideOf n)) := by
  refine ⟨by simp [Pl.int], Pl.int, start [0, 2, 4] Tryz.func52 rfl (by decide) rfl (by kernel_rfl) (by simp [Tryz.f52]) ?_⟩
  simp only [Tryz.f52]
  repeat' (first | with_reducible refine seq_k fun K hK => ?_ | (with_reducible refine hK _ _ ?_; clear hK) | ((with_reducible first | refine gd_dec ?_ ?_ | refine gd_ndec ?_ ?_ | refine if_dec ?_ ?_ | refine if_ndec ?_ ?_) <;> intro h) | simp -implicitDefEqProofs (disch := omega) only [go_sem, ↓reduceIte, Nat.reduceEqDiff, Int.reduceEq, Nat.reduceAdd, Nat.reduceSub, Nat.reduceMul, Nat.mul_one, Nat.one_mul, List.length_nil, List.length_cons, List.nil_append, List.cons_append, List.length_append, List.set_cons_zero, List.set_cons_succ, Nat.zero_add, Int.toNat_natCast, Bool.not_true, Bool.not_false] | ((with_reducible first | refine gd_bool ?_ ?_ | refine if_bool ?_ ?_) <;> intro h) | clear hK)
  · rw [sideOf, if_pos h]
  · rw [sideOf, if_neg h]
theorem up_ok {n : Int} (h0 : 0 ≤ n) (h1 : n ≤ 1) : FnP (Tz z) 78 [.int .i64 n] (.int .i64 (upOf n)) := by
  refine ⟨by simp [Pl.int], Pl.int, start [0, 2] Tryz.func78 rfl (by decide) rfl (by kernel_rfl) (by simp [Tryz.f78]) ?_⟩
  simp only [Tryz.f78]
  repeat' (first | with_reducible refine seq_k fun K hK => ?_ | (with_reducible refine hK _ _ ?_; clear hK) | ((with_reducible first | refine gd_dec ?_ ?_ | refine gd_ndec ?_ ?_ | refine if_dec ?_ ?_ | refine if_ndec ?_ ?_) <;> intro h) | simp -implicitDefEqProofs (disch := omega) only [go_sem, ↓reduceIte, Nat.reduceEqDiff, Int.reduceEq, Nat.reduceAdd, Nat.reduceSub, Nat.reduceMul, Nat.mul_one, Nat.one_mul, List.length_nil, List.length_cons, List.nil_append, List.cons_append, List.length_append, List.set_cons_zero, List.set_cons_succ, Nat.zero_add, Int.toNat_natCast, Bool.not_true, Bool.not_false] | ((with_reducible first | refine gd_bool ?_ ?_ | refine if_bool ?_ ?_) <;> intro h) | clear hK)
  rfl
theorem sign_ok {n : Int} : FnP (Tz z) 82 [.int .i64 n] (.int .i64 (sgn n)) := by
  refine ⟨by simp [Pl.int], Pl.int, start [0, 2, 3, 6] Tryz.func82 rfl (by decide) rfl (by kernel_rfl) (by simp [Tryz.f82]) ?_⟩
  simp only [Tryz.f82]
  repeat' (first | with_reducible refine seq_k fun K hK => ?_ | (with_reducible refine hK _ _ ?_; clear hK) | ((with_reducible first | refine gd_dec ?_ ?_ | refine gd_ndec ?_ ?_ | refine if_dec ?_ ?_ | refine if_ndec ?_ ?_) <;> intro h) | simp -implicitDefEqProofs (disch := omega) only [go_sem, ↓reduceIte, Nat.reduceEqDiff, Int.reduceEq, Nat.reduceAdd, Nat.reduceSub, Nat.reduceMul, Nat.mul_one, Nat.one_mul, List.length_nil, List.length_cons, List.nil_append, List.cons_append, List.length_append, List.set_cons_zero, List.set_cons_succ, Nat.zero_add, Int.toNat_natCast, Bool.not_true, Bool.not_false] | ((with_reducible first | refine gd_bool ?_ ?_ | refine if_bool ?_ ?_) <;> intro h) | clear hK)
  · rw [sgn, if_pos h]
  · rw [sgn, if_neg (by assumption), if_pos h]
  · rw [sgn, if_neg (by assumption), if_neg h]
theorem of_ok {k s : Int} (h0 : 0 ≤ k ∧ k ≤ 100) (h1 : 0 ≤ s ∧ s ≤ 1) : FnP (Tz z) 30 [.int .i64 k, .int .i64 s] (.int .i64 (k + 6 * s)) := by
  refine ⟨by simp [Pl.int], Pl.int, start [0, 1, 4] Tryz.func30 rfl (by decide) rfl (by kernel_rfl) (by simp [Tryz.f30]) ?_⟩
  simp only [Tryz.f30]
  repeat' (first | with_reducible refine seq_k fun K hK => ?_ | (with_reducible refine hK _ _ ?_; clear hK) | ((with_reducible first | refine gd_dec ?_ ?_ | refine gd_ndec ?_ ?_ | refine if_dec ?_ ?_ | refine if_ndec ?_ ?_) <;> intro h) | simp -implicitDefEqProofs (disch := omega) only [go_sem, ↓reduceIte, Nat.reduceEqDiff, Int.reduceEq, Nat.reduceAdd, Nat.reduceSub, Nat.reduceMul, Nat.mul_one, Nat.one_mul, List.length_nil, List.length_cons, List.nil_append, List.cons_append, List.length_append, List.set_cons_zero, List.set_cons_succ, Nat.zero_add, Int.toNat_natCast, Bool.not_true, Bool.not_false] | ((with_reducible first | refine gd_bool ?_ ?_ | refine if_bool ?_ ?_) <;> intro h) | clear hK)
theorem file_ok {n : Int} (h0 : 0 ≤ n) : FnP (Tz z) 58 [.int .i64 n] (.int .i64 (n % 8)) := by
  refine ⟨by simp [Pl.int], Pl.int, start [0, 2] Tryz.func58 rfl (by decide) rfl (by kernel_rfl) (by simp [Tryz.f58]) ?_⟩
  simp only [Tryz.f58]
  repeat' (first | with_reducible refine seq_k fun K hK => ?_ | (with_reducible refine hK _ _ ?_; clear hK) | ((with_reducible first | refine gd_dec ?_ ?_ | refine gd_ndec ?_ ?_ | refine if_dec ?_ ?_ | refine if_ndec ?_ ?_) <;> intro h) | simp -implicitDefEqProofs (disch := omega) only [go_sem, ↓reduceIte, Nat.reduceEqDiff, Int.reduceEq, Nat.reduceAdd, Nat.reduceSub, Nat.reduceMul, Nat.mul_one, Nat.one_mul, List.length_nil, List.length_cons, List.nil_append, List.cons_append, List.length_append, List.set_cons_zero, List.set_cons_succ, Nat.zero_add, Int.toNat_natCast, Bool.not_true, Bool.not_false] | ((with_reducible first | refine gd_bool ?_ ?_ | refine if_bool ?_ ?_) <;> intro h) | clear hK)
theorem rank_ok {n : Int} (h0 : 0 ≤ n) (h1 : n ≤ 9223372036854775807) : FnP (Tz z) 33 [.int .i64 n] (.int .i64 (n / 8)) := by
  refine ⟨by simp [Pl.int], Pl.int, start [0, 2] Tryz.func33 rfl (by decide) rfl (by kernel_rfl) (by simp [Tryz.f33]) ?_⟩
  simp only [Tryz.f33]
  repeat' (first | with_reducible refine seq_k fun K hK => ?_ | (with_reducible refine hK _ _ ?_; clear hK) | ((with_reducible first | refine gd_dec ?_ ?_ | refine gd_ndec ?_ ?_ | refine if_dec ?_ ?_ | refine if_ndec ?_ ?_) <;> intro h) | simp -implicitDefEqProofs (disch := omega) only [go_sem, ↓reduceIte, Nat.reduceEqDiff, Int.reduceEq, Nat.reduceAdd, Nat.reduceSub, Nat.reduceMul, Nat.mul_one, Nat.one_mul, List.length_nil, List.length_cons, List.nil_append, List.cons_append, List.length_append, List.set_cons_zero, List.set_cons_succ, Nat.zero_add, Int.toNat_natCast, Bool.not_true, Bool.not_false] | ((with_reducible first | refine gd_bool ?_ ?_ | refine if_bool ?_ ?_) <;> intro h) | clear hK)
theorem at_ok {f r : Int} (h0 : -100 ≤ f ∧ f ≤ 100) (h1 : -100 ≤ r ∧ r ≤ 100) : FnP (Tz z) 32 [.int .i64 f, .int .i64 r] (.int .i64 (atSq f r)) := by
  refine ⟨by simp [Pl.int], Pl.int, start [0, 1, 4, 18] Tryz.func32 rfl (by decide) rfl (by kernel_rfl) (by simp [Tryz.f32]) ?_⟩
  simp only [Tryz.f32]
  repeat' (first | with_reducible refine seq_k fun K hK => ?_ | (with_reducible refine hK _ _ ?_; clear hK) | ((with_reducible first | refine gd_dec ?_ ?_ | refine gd_ndec ?_ ?_ | refine if_dec ?_ ?_ | refine if_ndec ?_ ?_) <;> intro h) | simp -implicitDefEqProofs (disch := omega) only [go_sem, ↓reduceIte, Nat.reduceEqDiff, Int.reduceEq, Nat.reduceAdd, Nat.reduceSub, Nat.reduceMul, Nat.mul_one, Nat.one_mul, List.length_nil, List.length_cons, List.nil_append, List.cons_append, List.length_append, List.set_cons_zero, List.set_cons_succ, Nat.zero_add, Int.toNat_natCast, Bool.not_true, Bool.not_false] | ((with_reducible first | refine gd_bool ?_ ?_ | refine if_bool ?_ ?_) <;> intro h) | clear hK)
  all_goals (congr 1; unfold atSq; split <;> omega)
theorem sq49 {x : Int} (h : -7 ≤ x ∧ x ≤ 7) : 0 ≤ x * x ∧ x * x ≤ 49 := by
  have : ∀ y : Fin 15, 0 ≤ ((y.val : Int) - 7) * ((y.val : Int) - 7) ∧ ((y.val : Int) - 7) * ((y.val : Int) - 7) ≤ 49 := by decide
  have := this ⟨(x + 7).toNat, by omega⟩
  rwa [show (((⟨(x + 7).toNat, by omega⟩ : Fin 15).val : Int) - 7) = x by simp; omega] at this
theorem sideOf_bd (n : Int) : 0 ≤ sideOf n ∧ sideOf n ≤ 1 := by unfold sideOf; split <;> omega
theorem sgn_bd (n : Int) : -1 ≤ sgn n ∧ sgn n ≤ 1 := by unfold sgn; repeat' split <;> omega
theorem upOf_bd {n : Int} (h : 0 ≤ n ∧ n ≤ 1) : -1 ≤ upOf n ∧ upOf n ≤ 1 := by unfold upOf; omega
def fdif (i j : Int) : Int := j % 8 - i % 8
def rdif (i j : Int) : Int := j / 8 - i / 8
def strP (c : Nat → Int) (i j : Int) : Prop := (fdif i j = 0 ∨ rdif i j = 0) ∧ kindOf (c i.toNat) ≠ 4
def slaP (c : Nat → Int) (i j : Int) : Prop := (fdif i j = rdif i j ∨ fdif i j = -rdif i j) ∧ kindOf (c i.toNat) ≠ 3
instance (c : Nat → Int) (i j : Int) : Decidable (strP c i j) := inferInstanceAs (Decidable ((fdif i j = 0 ∨ rdif i j = 0) ∧ kindOf (c i.toNat) ≠ 4))
instance (c : Nat → Int) (i j : Int) : Decidable (slaP c i j) := inferInstanceAs (Decidable ((fdif i j = rdif i j ∨ fdif i j = -rdif i j) ∧ kindOf (c i.toNat) ≠ 3))
def wayOf (i j : Int) : Int := sgn (fdif i j) + 8 * sgn (rdif i j)
def distOf (i j : Int) : Nat := max (fdif i j).natAbs (rdif i j).natAbs
def onRay (i j : Int) : Prop := fdif i j = 0 ∨ rdif i j = 0 ∨ fdif i j = rdif i j ∨ fdif i j = -rdif i j
instance (i j : Int) : Decidable (onRay i j) := by unfold onRay; infer_instance
def rayOk (i j : Int) (k : Nat) : Bool := decide (onRay i j) && decide (i ≠ j) && decide (k ≤ distOf i j) && !(decide (0 ≤ i + k * wayOf i j) && decide (i + k * wayOf i j < 64) && (decide (i + k * wayOf i j = j) == decide (k = distOf i j)) && decide (1 ≤ distOf i j))
theorem ray_all : ((List.range 64).all fun i => (List.range 64).all fun j => (List.range 8).all fun k => !rayOk i j k) = true := by kernel_rfl
theorem ray {i j : Int} (h0 : 0 ≤ i ∧ i < 64) (h2 : 0 ≤ j ∧ j < 64) (hr : onRay i j) (hn : i ≠ j) (k : Nat) (hk : k ≤ distOf i j) : (0 ≤ i + k * wayOf i j ∧ i + k * wayOf i j < 64) ∧ (i + k * wayOf i j = j ↔ k = distOf i j) ∧ 1 ≤ distOf i j := by
  have hd : distOf i j ≤ 7 := by unfold distOf fdif rdif; omega
  have h := List.all_eq_true.1 (List.all_eq_true.1 (List.all_eq_true.1 ray_all i.toNat (by simp; omega)) j.toNat (by simp; omega)) k (by simp; omega)
  rw [Int.toNat_of_nonneg h0.1, Int.toNat_of_nonneg h2.1] at h
  simp only [rayOk, hr, hn, hk, decide_true, ne_eq, not_false_eq_true, Bool.true_and, Bool.not_not, Bool.and_eq_true, decide_eq_true_eq, beq_iff_eq] at h
  obtain ⟨⟨⟨a, b⟩, c⟩, d⟩ := h
  exact ⟨⟨a, b⟩, by simpa using c, d⟩
def clearP (c : Nat → Int) (i j : Int) (n : Nat) : Prop := ∀ k : Nat, 1 ≤ k → k < n → c (i + k * wayOf i j).toNat = 0
def box24 (c : Nat → Int) : AO := .cells (ints .i64 69 c) 24
def hitsP (c : Nat → Int) (i j : Int) : Prop := i ≠ j ∧ c i.toNat ≠ 0 ∧
  (if kindOf (c i.toNat) = 1 then fdif i j * fdif i j ≤ 1 ∧ rdif i j * rdif i j ≤ 1
   else if kindOf (c i.toNat) = 5 then fdif i j * fdif i j + rdif i j * rdif i j = 5
   else if kindOf (c i.toNat) = 6 then fdif i j * fdif i j = 1 ∧ rdif i j = upOf (sideOf (c i.toNat))
   else (strP c i j ∨ slaP c i j) ∧ clearP c i j (distOf i j))
open Classical in
noncomputable def hitsB (c : Nat → Int) (i j : Int) : Bool := decide (hitsP c i j)
theorem hitsB_iff {c : Nat → Int} {i j : Int} : hitsB c i j = true ↔ hitsP c i j := by unfold hitsB; exact @decide_eq_true_iff _ (Classical.propDecidable _)
theorem hits_ray {c : Nat → Int} {i j : Int} (h : i ≠ j ∧ c i.toNat ≠ 0 ∧ kindOf (c i.toNat) ≠ 1 ∧ kindOf (c i.toNat) ≠ 5 ∧ kindOf (c i.toNat) ≠ 6) : hitsB c i j = true ↔ (strP c i j ∨ slaP c i j) ∧ clearP c i j (distOf i j) := by
  obtain ⟨h1, h2, h3, h4, h5⟩ := h
  rw [hitsB_iff]
  simp [hitsP, h1, h2, h3, h4, h5]
theorem bool_f {a : Bool} (h : ¬ a = true) : Value.bool false = Value.bool a := by cases a <;> simp_all
theorem bool_t {a : Bool} (h : a = true) : Value.bool true = Value.bool a := by rw [h]
set_option maxHeartbeats 4000000 in
set_option maxRecDepth 20000 in
theorem hits_ok (c : Nat → Int) {i j : Int} (h0 : 0 ≤ i) (h1 : i < 64) (h2 : 0 ≤ j) (h3 : j < 64) (hc : 0 ≤ c i.toNat ∧ c i.toNat ≤ 12) : FnP (Tz z) 57 [posV c, .int .i64 i, .int .i64 j] (.bool (hitsB c i j)) := by
  refine ⟨by simp [Pl.int, posV_pl], Pl.bool, start [0, 1, 2, 3, 6, 7, 8, 9, 10, 11, 12, 32, 52, 53, 65, 75, 91, 93, 100, 112, 120] Tryz.func57 rfl (by decide) rfl (by kernel_rfl) (by simp [Tryz.f57]) ?_⟩
  simp only [Tryz.f57]
  unfold posV
  have hsd := sideOf_bd (c i.toNat)
  have hup := upOf_bd hsd
  have hf := sq49 (x := j % 8 - i % 8) (by omega)
  have hr := sq49 (x := j / 8 - i / 8) (by omega)
  have sg1 := sgn_bd (j % 8 - i % 8)
  have sg2 := sgn_bd (j / 8 - i / 8)
  have hway : -9 ≤ wayOf i j ∧ wayOf i j ≤ 9 := by unfold wayOf fdif rdif; omega
  repeat' (first | (with_reducible refine hJg ?_ _ _ ?_; clear hJg; rotate_left; refine VS.sub ?_) | with_reducible refine seq_g ((strP c i j ∨ slaP c i j) ∧ onRay i j ∧ i ≠ j) (a := Code.seq (Code.region 18 _ _) _) [(1, .int .i64 i), (2, .int .i64 j), (3, .pointer (some ⟨100, 0, none⟩)), (7, .int .i64 (j % 8 - i % 8)), (8, .int .i64 (j / 8 - i / 8))] [.cells (ints .i64 69 c) 24] (fun hg => (fun b1 : Nat → Nat => ?_) id) (fun K hJg => ?_) | (cases b1 <;> cases b2) | with_reducible refine loop (V := [0, 1, 2, 3, 6, 7, 8, 9, 10, 11, 12, 32, 52, 53, 65, 75, 91, 93, 100, 112, 120]) (fun k : Nat => ([(2, .int .i64 j), (3, .pointer (some ⟨100, 0, none⟩)), (11, .int .i64 (wayOf i j)), (12, .int .i64 (i + k * wayOf i j))], [.cells (ints .i64 69 c) 24])) (fun k => 1 ≤ k ∧ k ≤ distOf i j ∧ clearP c i j k) (fun k => distOf i j - k) 1 (by kernel_rfl) ?_ ?_ (fun k hk => (fun hk2 hk3 => ?_) (ray ⟨h0, h1⟩ ⟨h2, h3⟩ hg.2.1 hg.2.2 k hk.2.1) hk.1) | (with_reducible refine hJ _ _ ?_; clear hJ; refine VS.sub ?_) | (with_reducible first | refine seq_i (a := Code.region 5 _ _) [(1, .int .i64 i), (2, .int .i64 j), (3, .pointer (some ⟨100, 0, none⟩)), (7, .int .i64 (j % 8 - i % 8)), (8, .int .i64 (j / 8 - i / 8)), (9, .bool (decide (fdif i j = 0 ∨ rdif i j = 0)))] [.cells (ints .i64 69 c) 24] ?_ (fun K hJ => ?_) | refine seq_i (a := Code.region 6 _ _) [(1, .int .i64 i), (2, .int .i64 j), (3, .pointer (some ⟨100, 0, none⟩)), (7, .int .i64 (j % 8 - i % 8)), (8, .int .i64 (j / 8 - i / 8)), (9, .bool (decide (fdif i j = 0 ∨ rdif i j = 0))), (10, .bool (decide (fdif i j = rdif i j ∨ fdif i j = -rdif i j)))] [.cells (ints .i64 69 c) 24] ?_ (fun K hJ => ?_) | refine seq_b (i ≠ j ∧ c i.toNat ≠ 0 ∧ kindOf (c i.toNat) ≠ 1 ∧ kindOf (c i.toNat) ≠ 5 ∧ kindOf (c i.toNat) ≠ 6) (p := strP c i j) (q := slaP c i j) (a := Code.seq (Code.region 7 _ _) _) (fun b1 b2 => [(1, .int .i64 i), (2, .int .i64 j), (3, .pointer (some ⟨100, 0, none⟩)), (7, .int .i64 (j % 8 - i % 8)), (8, .int .i64 (j / 8 - i / 8)), (9, .bool b1), (10, .bool b2)]) [.cells (ints .i64 69 c) 24] (fun hkd b1 b2 e1 e2 => ?_) (fun K hJg => ?_) | refine call_p (file_ok (by omega)) ?_ | refine call_p (rank_ok (by omega) (by omega)) ?_ | refine call_p (kindOf_ok (by omega) (by omega)) ?_ | refine call_p sideOf_ok ?_ | refine call_p (up_ok (by omega) (by omega)) ?_ | refine call_p sign_ok ?_ | refine seq_k fun K hK => ?_) | (with_reducible refine hK _ _ ?_; clear hK) | ((with_reducible first | refine gd_dec ?_ ?_ | refine gd_ndec ?_ ?_ | refine if_dec ?_ ?_ | refine if_ndec ?_ ?_) <;> intro h) | simp -implicitDefEqProofs (disch := omega) only [go_sem, ↓reduceIte, Nat.reduceEqDiff, Int.reduceEq, Nat.reduceAdd, Nat.reduceSub, Nat.reduceMul, Nat.mul_one, Nat.one_mul, List.length_nil, List.length_cons, List.nil_append, List.cons_append, List.length_append, List.set_cons_zero, List.set_cons_succ, Nat.zero_add, Int.toNat_natCast, Bool.not_true, Bool.not_false] | ((with_reducible first | refine gd_bool ?_ ?_ | refine if_bool ?_ ?_) <;> intro h) | clear hK)
  all_goals first
    | (simp [Fr.sub, Fr.get, fdif, rdif, strP, slaP, wayOf, *]; done)
    | (refine VS.sub ?_; simp [Fr.sub, Fr.get, fdif, rdif, wayOf]; done)
    | (simp_all [hitsB, hitsP, fdif, rdif]; done)
    | (refine ⟨Nat.le_refl _, (ray ⟨h0, h1⟩ ⟨h2, h3⟩ hg.2.1 hg.2.2 0 (Nat.zero_le _)).2.2, fun k h1 h2 => by omega⟩)
    | (refine ⟨by simp_all, ?_, hkd.1⟩; simp only [strP, slaP, true_iff, iff_true] at e1 e2; unfold onRay; omega)
    | exact bool_f fun hh => absurd (((hits_ray hkd).1 hh).2 k hk3 (by omega)) (by assumption)
    | exact bool_t ((hits_ray hkd).2 ⟨hg.1, by rw [← hk2.2.1.1 (by assumption)]; exact hk.2.2⟩)
    | exact bool_f fun hh => by have := ((hits_ray hkd).1 hh).1; simp_all
    | (refine ⟨k + 1, ⟨by omega, by omega, fun k' h1 h2 => ?_⟩, by omega, VS.sub ?_⟩; rcases Nat.lt_or_ge k' k with h | h; exact hk.2.2 k' h1 h; rw [show k' = k by omega]; assumption; simp [Fr.sub, Fr.get, Int.add_mul]; omega)
    | exact bool_f fun hh => by have := hitsB_iff.1 hh; simp_all [hitsP, fdif, rdif] <;> omega
    | (simp only [Fr.sub, Fr.get, ↓reduceIte, Nat.reduceEqDiff, Option.some.injEq, Value.bool.injEq, true_and, and_true, decide_eq_decide]; simp_all [strP, slaP]; done)
end Go.Tb
end
section
namespace Go.Tb
open Go Go.Proofs
variable {z : Nat × Nat}
def findI (p : Nat → Bool) (n : Nat) : Int := match (List.range n).find? p with
  | some i => i
  | none => -1
theorem findI_at {p : Nat → Bool} {n k : Nat} (hk : k < n) (hp : p k = true) (h : ∀ i, i < k → p i = false) : findI p n = k := by
  have : (List.range n).find? p = some k := by
    rw [List.find?_range_eq_some]
    exact ⟨hp, by simpa using hk, fun j hj => by simp [h j hj]⟩
  simp [findI, this]
theorem findI_no {p : Nat → Bool} {n : Nat} (h : ∀ i, i < n → p i = false) : findI p n = -1 := by
  have : (List.range n).find? p = none := by
    rw [List.find?_eq_none]; intro i hi; simp [h i (List.mem_range.1 hi)]
  simp [findI, this]
def countI (p : Nat → Bool) (n : Nat) : Nat := ((List.range n).filter p).length
theorem countI_succ (p : Nat → Bool) (n : Nat) : countI p (n + 1) = countI p n + if p n = true then 1 else 0 := by
  simp only [countI, List.range_succ, List.filter_append, List.length_append]
  cases h : p n <;> simp [h]
theorem countI_le (p : Nat → Bool) (n : Nat) : countI p n ≤ n := by
  have := List.length_filter_le p (List.range n); simpa [countI] using this
noncomputable def attB (c : Nat → Int) (sq by' : Int) : Bool := (List.range 64).any fun i => decide (c i ≠ 0) && decide (sideOf (c i) = by') && hitsB c i sq
theorem all_succ {p : Nat → Prop} {k : Nat} (h : ∀ i, i < k → p i) (hk : p k) : ∀ i, i < k + 1 → p i := fun i hi => by
  rcases Nat.lt_or_ge i k with h1 | h1
  · exact h i h1
  · rw [show i = k by omega]; exact hk
abbrev Bd (c : Nat → Int) : Prop := ∀ i, i < 64 → 0 ≤ c i ∧ c i ≤ 12
def kingI (c : Nat → Int) (s : Int) : Int := findI (fun i => decide (c i = 1 + 6 * s)) 64
set_option maxHeartbeats 4000000 in
set_option maxRecDepth 20000 in
theorem kingAt_ok (c : Nat → Int) {s : Int} (hs : 0 ≤ s ∧ s ≤ 1) : FnP (Tz z) 27 [posV c, .int .i64 s] (.int .i64 (kingI c s)) := by
  refine ⟨by simp [Pl.int, posV_pl], Pl.int, start [0, 1, 2, 4, 5, 7, 16] Tryz.func27 rfl (by decide) rfl (by kernel_rfl) (by simp [Tryz.f27]) ?_⟩
  simp only [Tryz.f27]
  unfold posV
  repeat' (first | (with_reducible first | refine draw2 (id := 4) [(0, .q), (1, .q), (2, .q), (3, .r), (4, .q), (5, .r), (6, .q)] (by kernel_rfl) (by kernel_rfl) ?_ | refine loop (V := [0, 1, 2, 4, 5, 7, 16]) (fun k : Nat => ([(1, .int .i64 s), (2, .pointer (some ⟨100, 0, none⟩)), (5, .int .i64 k)], [.cells (ints .i64 69 c) 24])) (fun k => k ≤ 64 ∧ ∀ i, i < k → c i ≠ 1 + 6 * s) (fun k => 64 - k) 0 (by kernel_rfl) ?_ ?_ (fun k hk => ?_) | refine call_p (of_ok (by omega) (by omega)) ?_ | refine piG_call (of_ok (by omega) (by omega)) ?_ | refine seq_k fun K hK => ?_) | (with_reducible refine hK _ _ ?_; clear hK) | ((with_reducible first | refine gd_dec ?_ ?_ | refine gd_ndec ?_ ?_ | refine if_dec ?_ ?_ | refine if_ndec ?_ ?_) <;> intro h) | simp -implicitDefEqProofs (disch := omega) only [go_sem, ↓reduceIte, Nat.reduceEqDiff, Int.reduceEq, Nat.reduceAdd, Nat.reduceSub, Nat.reduceMul, Nat.mul_one, Nat.one_mul, List.length_nil, List.length_cons, List.nil_append, List.cons_append, List.length_append, List.set_cons_zero, List.set_cons_succ, Nat.zero_add, Int.toNat_natCast, Bool.not_true, Bool.not_false] | ((with_reducible first | refine gd_bool ?_ ?_ | refine if_bool ?_ ?_) <;> intro h) | clear hK)
  · exact ⟨by omega, fun i hi => by omega⟩
  · exact VS.sub (by simp [Fr.sub, Fr.get])
  · rw [kingI, findI_at (k := k) (by omega) (by simpa using h) (fun i hi => by simpa using hk.2 i hi)]
  · exact ⟨k + 1, ⟨by omega, all_succ hk.2 h⟩, by omega, VS.sub (by simp [Fr.sub, Fr.get])⟩
  · rw [kingI, findI_no fun i hi => by simpa using hk.2 i (by omega)]
set_option maxHeartbeats 4000000 in
set_option maxRecDepth 20000 in
theorem attacked_ok (c : Nat → Int) {sq s : Int} (hs : 0 ≤ s ∧ s ≤ 1) (hq : 0 ≤ sq ∧ sq < 64) (hb : Bd c) : FnP (Tz z) 28 [posV c, .int .i64 sq, .int .i64 s] (.bool (attB c sq s)) := by
  refine ⟨by simp [Pl.int, posV_pl], Pl.bool, start [0, 1, 2, 3, 6, 7, 9, 31] Tryz.func28 rfl (by decide) rfl (by kernel_rfl) (by simp [Tryz.f28]) ?_⟩
  simp only [Tryz.f28]
  unfold posV
  repeat' (first | (with_reducible first | refine loop (V := [0, 1, 2, 3, 6, 7, 9, 31]) (fun k : Nat => ([(1, .int .i64 sq), (2, .int .i64 s), (3, .pointer (some ⟨100, 0, none⟩)), (7, .int .i64 k)], [.cells (ints .i64 69 c) 24])) (fun k => k ≤ 64 ∧ ∀ i : Nat, i < k → (decide (c i ≠ 0) && decide (sideOf (c i) = s) && hitsB c i sq) = false) (fun k => 64 - k) 0 (by kernel_rfl) ?_ ?_ (fun k hk => ?_) | refine call_p (sideOf_ok) ?_ | refine piG_call (sideOf_ok) ?_ | refine call_p (hits_ok c (by omega) (by omega) (by omega) (by omega) (by rw [Int.toNat_natCast]; exact hb _ (by omega))) ?_ | refine seq_k fun K hK => ?_) | (with_reducible refine hK _ _ ?_; clear hK) | ((with_reducible first | refine gd_dec ?_ ?_ | refine gd_ndec ?_ ?_ | refine if_dec ?_ ?_ | refine if_ndec ?_ ?_) <;> intro h) | simp -implicitDefEqProofs (disch := omega) only [go_sem, ↓reduceIte, Nat.reduceEqDiff, Int.reduceEq, Nat.reduceAdd, Nat.reduceSub, Nat.reduceMul, Nat.mul_one, Nat.one_mul, List.length_nil, List.length_cons, List.nil_append, List.cons_append, List.length_append, List.set_cons_zero, List.set_cons_succ, Nat.zero_add, Int.toNat_natCast, Bool.not_true, Bool.not_false] | ((with_reducible first | refine gd_bool ?_ ?_ | refine if_bool ?_ ?_) <;> intro h) | clear hK)
  · exact ⟨by omega, fun i hi => by omega⟩
  · exact VS.sub (by simp [Fr.sub, Fr.get])
  · refine bool_t (List.any_eq_true.2 ⟨k, by simp; omega, ?_⟩); simp_all
  · exact ⟨k + 1, ⟨by omega, all_succ hk.2 (by simp_all)⟩, by omega, VS.sub (by simp [Fr.sub, Fr.get])⟩
  · exact ⟨k + 1, ⟨by omega, all_succ hk.2 (by simp_all)⟩, by omega, VS.sub (by simp [Fr.sub, Fr.get])⟩
  · exact ⟨k + 1, ⟨by omega, all_succ hk.2 (by simp_all)⟩, by omega, VS.sub (by simp [Fr.sub, Fr.get])⟩
  · refine bool_f fun hh => ?_
    obtain ⟨i, hi, hh⟩ := List.any_eq_true.1 hh
    rw [hk.2 i (by have := List.mem_range.1 hi; omega)] at hh; cases hh
def cntI (c : Nat → Int) (v : Int) : Nat → Nat := countI fun i => decide (c i = v)
set_option maxHeartbeats 4000000 in
set_option maxRecDepth 20000 in
theorem count_ok (c : Nat → Int) {kd s : Int} (hk : 0 ≤ kd ∧ kd ≤ 100) (hs : 0 ≤ s ∧ s ≤ 1) : FnP (Tz z) 60 [posV c, .int .i64 kd, .int .i64 s] (.int .i64 (cntI c (kd + 6 * s) 64)) := by
  refine ⟨by simp [Pl.int, posV_pl], Pl.int, start [0, 1, 2, 3, 6, 7, 8, 10, 20] Tryz.func60 rfl (by decide) rfl (by kernel_rfl) (by simp [Tryz.f60]) ?_⟩
  simp only [Tryz.f60]
  unfold posV
  have hc := countI_le fun i => decide (c i = kd + 6 * s)
  repeat' (first | (with_reducible first | refine draw2 (id := 5) [(0, .q), (1, .q), (2, .q), (3, .r), (4, .q), (5, .q), (6, .r), (7, .q)] (by kernel_rfl) (by kernel_rfl) ?_ | refine loop (V := [0, 1, 2, 3, 6, 7, 8, 10, 20]) (fun k : Nat => ([(1, .int .i64 kd), (2, .int .i64 s), (3, .pointer (some ⟨100, 0, none⟩)), (7, .int .i64 (cntI c (kd + 6 * s) k)), (8, .int .i64 k)], [.cells (ints .i64 69 c) 24])) (fun k => k ≤ 64 ∧ cntI c (kd + 6 * s) k ≤ k) (fun k => 64 - k) 0 (by kernel_rfl) ?_ ?_ (fun k hk => ?_) | refine call_p (of_ok (by omega) (by omega)) ?_ | refine piG_call (of_ok (by omega) (by omega)) ?_ | refine seq_k fun K hK => ?_) | (with_reducible refine hK _ _ ?_; clear hK) | ((with_reducible first | refine gd_dec ?_ ?_ | refine gd_ndec ?_ ?_ | refine if_dec ?_ ?_ | refine if_ndec ?_ ?_) <;> intro h) | simp -implicitDefEqProofs (disch := omega) only [go_sem, ↓reduceIte, Nat.reduceEqDiff, Int.reduceEq, Nat.reduceAdd, Nat.reduceSub, Nat.reduceMul, Nat.mul_one, Nat.one_mul, List.length_nil, List.length_cons, List.nil_append, List.cons_append, List.length_append, List.set_cons_zero, List.set_cons_succ, Nat.zero_add, Int.toNat_natCast, Bool.not_true, Bool.not_false] | ((with_reducible first | refine gd_bool ?_ ?_ | refine if_bool ?_ ?_) <;> intro h) | clear hK)
  · exact ⟨by omega, by simp [cntI, countI]⟩
  · exact VS.sub (by simp [Fr.sub, Fr.get, cntI, countI])
  · exact ⟨k + 1, ⟨by omega, hc _⟩, by omega, VS.sub (by simp [Fr.sub, Fr.get, cntI, countI_succ, h])⟩
  · exact ⟨k + 1, ⟨by omega, hc _⟩, by omega, VS.sub (by simp [Fr.sub, Fr.get, cntI, countI_succ, h])⟩
  · rw [show k = 64 by omega]
end Go.Tb
end
section
namespace Go.Tb
open Go Go.Proofs
variable {z : Nat × Nat}
theorem findI_bd (p : Nat → Bool) (n : Nat) : -1 ≤ findI p n ∧ findI p n < n ∨ n = 0 := by
  unfold findI
  split
  · rename_i i h
    have := List.mem_range.1 (List.mem_of_find?_eq_some h)
    left; omega
  · omega
theorem kingI_bd (c : Nat → Int) (s : Int) : -1 ≤ kingI c s ∧ kingI c s < 64 := by
  rcases findI_bd (fun i => decide (c i = 1 + 6 * s)) 64 with h | h
  · exact ⟨h.1, by have := h.2; unfold kingI; omega⟩
  · cases h
noncomputable def chkB (c : Nat → Int) (s : Int) : Bool := decide (0 ≤ kingI c s) && attB c (kingI c s) (1 - s)
set_option maxHeartbeats 4000000 in
set_option maxRecDepth 20000 in
theorem checked_ok (c : Nat → Int) {s : Int} (hs : 0 ≤ s ∧ s ≤ 1) (hb : Bd c) : FnP (Tz z) 85 [posV c, .int .i64 s] (.bool (chkB c s)) := by
  refine ⟨by simp [Pl.int, posV_pl], Pl.bool, start [0, 1, 2, 4, 5] Tryz.func85 rfl (by decide) rfl (by kernel_rfl) (by simp [Tryz.f85]) ?_⟩
  simp only [Tryz.f85]
  unfold posV
  have hk := kingI_bd c s
  repeat' (first | (with_reducible first | refine call_p (kingAt_ok c hs) ?_ | refine qG_call (kingAt_ok c hs) ?_ | refine zG_call (kingAt_ok c hs) ?_ | refine yG_call (kingAt_ok c hs) ?_ | refine piG_call (kingAt_ok c hs) ?_ | refine call_p (attacked_ok c (by omega) (by omega) hb) ?_ | refine qG_call (attacked_ok c (by omega) (by omega) hb) ?_ | refine zG_call (attacked_ok c (by omega) (by omega) hb) ?_ | refine yG_call (attacked_ok c (by omega) (by omega) hb) ?_ | refine piG_call (attacked_ok c (by omega) (by omega) hb) ?_ | refine seq_k fun K hK => ?_) | (with_reducible refine hK _ _ ?_; clear hK) | ((with_reducible first | refine gd_dec ?_ ?_ | refine gd_ndec ?_ ?_ | refine qC_dec ?_ ?_ | refine qC_ndec ?_ ?_ | refine piC_dec ?_ ?_ | refine piC_ndec ?_ ?_ | refine zC_dec ?_ ?_ | refine zC_ndec ?_ ?_ | refine zD_dec ?_ ?_ | refine yC_dec ?_ ?_ | refine yC_ndec ?_ ?_ | refine if_dec ?_ ?_ | refine if_ndec ?_ ?_) <;> intro hh) | simp -implicitDefEqProofs (disch := first | omega | assumption) only [go_sem, ↓reduceIte, Nat.reduceEqDiff, Int.reduceEq, Nat.reduceAdd, Nat.reduceSub, Nat.reduceMul, Nat.mul_one, Nat.one_mul, List.length_nil, List.length_cons, List.nil_append, List.cons_append, List.length_append, List.set_cons_zero, List.set_cons_succ, Nat.zero_add, Nat.sub_zero, Option.isNone_none, Option.isNone_some, Int.toNat_natCast, Nat.add_sub_cancel_left, Bool.not_true, Bool.not_false, BitVec.reduceOfInt, Int.reduceToNat] | ((with_reducible first | refine gd_bool ?_ ?_ | refine if_bool ?_ ?_ | refine qC_bool ?_ ?_ | refine piC_bool ?_ ?_ | refine zC_bool ?_ ?_ | refine zD_bool ?_ ?_ | refine yC_bool ?_ ?_) <;> intro hh) | clear hK)
  · rw [chkB, decide_eq_true (by omega), Bool.true_and]
  · rw [chkB, decide_eq_false (by omega), Bool.false_and]
set_option maxHeartbeats 4000000 in
set_option maxRecDepth 20000 in
theorem inCheck_ok (c : Nat → Int) (hs : 0 ≤ c 64 ∧ c 64 ≤ 1) (hb : Bd c) : FnP (Tz z) 66 [posV c] (.bool (chkB c (c 64))) := by
  refine ⟨by simp [posV_pl], Pl.bool, start [0, 1, 2] Tryz.func66 rfl (by decide) rfl (by kernel_rfl) (by simp [Tryz.f66]) ?_⟩
  simp only [Tryz.f66]
  unfold posV
  repeat' (first | (with_reducible first | refine call_p (checked_ok c hs hb) ?_ | refine qG_call (checked_ok c hs hb) ?_ | refine zG_call (checked_ok c hs hb) ?_ | refine yG_call (checked_ok c hs hb) ?_ | refine piG_call (checked_ok c hs hb) ?_ | refine seq_k fun K hK => ?_) | (with_reducible refine hK _ _ ?_; clear hK) | ((with_reducible first | refine gd_dec ?_ ?_ | refine gd_ndec ?_ ?_ | refine qC_dec ?_ ?_ | refine qC_ndec ?_ ?_ | refine piC_dec ?_ ?_ | refine piC_ndec ?_ ?_ | refine zC_dec ?_ ?_ | refine zC_ndec ?_ ?_ | refine zD_dec ?_ ?_ | refine yC_dec ?_ ?_ | refine yC_ndec ?_ ?_ | refine if_dec ?_ ?_ | refine if_ndec ?_ ?_) <;> intro hh) | simp -implicitDefEqProofs (disch := first | omega | assumption) only [go_sem, ↓reduceIte, Nat.reduceEqDiff, Int.reduceEq, Nat.reduceAdd, Nat.reduceSub, Nat.reduceMul, Nat.mul_one, Nat.one_mul, List.length_nil, List.length_cons, List.nil_append, List.cons_append, List.length_append, List.set_cons_zero, List.set_cons_succ, Nat.zero_add, Nat.sub_zero, Option.isNone_none, Option.isNone_some, Int.toNat_natCast, Nat.add_sub_cancel_left, Bool.not_true, Bool.not_false, BitVec.reduceOfInt, Int.reduceToNat] | ((with_reducible first | refine gd_bool ?_ ?_ | refine if_bool ?_ ?_ | refine qC_bool ?_ ?_ | refine piC_bool ?_ ?_ | refine zC_bool ?_ ?_ | refine zD_bool ?_ ?_ | refine yC_bool ?_ ?_) <;> intro hh) | clear hK)
def homeK (r : Int) : Int := atSq 4 (7 * (r / 2))
def homeR (r : Int) : Int := if r % 2 = 0 then atSq 7 (7 * (r / 2)) else atSq 0 (7 * (r / 2))
theorem home_ok {r : Int} (h : 0 ≤ r ∧ r ≤ 3) : FnP (Tz z) 59 [.int .i64 r] (.tuple [.int .i64 (homeK r), .int .i64 (homeR r)].toArray) := by
  refine ⟨by simp [Pl.int], Pl.tuple (by simp [Pl.int]), start [0, 2, 3, 4, 10] Tryz.func59 rfl (by decide) rfl (by kernel_rfl) (by simp [Tryz.f59]) ?_⟩
  simp only [Tryz.f59]
  repeat' (first | (with_reducible first | refine call_p (at_ok (by omega) (by omega)) ?_ | refine qG_call (at_ok (by omega) (by omega)) ?_ | refine zG_call (at_ok (by omega) (by omega)) ?_ | refine yG_call (at_ok (by omega) (by omega)) ?_ | refine piG_call (at_ok (by omega) (by omega)) ?_ | refine seq_k fun K hK => ?_) | (with_reducible refine hK _ _ ?_; clear hK) | ((with_reducible first | refine gd_dec ?_ ?_ | refine gd_ndec ?_ ?_ | refine qC_dec ?_ ?_ | refine qC_ndec ?_ ?_ | refine piC_dec ?_ ?_ | refine piC_ndec ?_ ?_ | refine zC_dec ?_ ?_ | refine zC_ndec ?_ ?_ | refine zD_dec ?_ ?_ | refine yC_dec ?_ ?_ | refine yC_ndec ?_ ?_ | refine if_dec ?_ ?_ | refine if_ndec ?_ ?_) <;> intro hh) | simp -implicitDefEqProofs (disch := first | omega | assumption) only [go_sem, ↓reduceIte, Nat.reduceEqDiff, Int.reduceEq, Nat.reduceAdd, Nat.reduceSub, Nat.reduceMul, Nat.mul_one, Nat.one_mul, List.length_nil, List.length_cons, List.nil_append, List.cons_append, List.length_append, List.set_cons_zero, List.set_cons_succ, Nat.zero_add, Nat.sub_zero, Option.isNone_none, Option.isNone_some, Int.toNat_natCast, Nat.add_sub_cancel_left, Bool.not_true, Bool.not_false, BitVec.reduceOfInt, Int.reduceToNat] | ((with_reducible first | refine gd_bool ?_ ?_ | refine if_bool ?_ ?_ | refine qC_bool ?_ ?_ | refine piC_bool ?_ ?_ | refine zC_bool ?_ ?_ | refine zD_bool ?_ ?_ | refine yC_bool ?_ ?_) <;> intro hh) | clear hK)
  · rw [homeK, homeR, if_pos hh]
  · rw [homeK, homeR, if_neg hh]
theorem homeK_bd {r : Int} (h : 0 ≤ r ∧ r ≤ 3) : 0 ≤ homeK r ∧ homeK r < 64 := by unfold homeK atSq; split <;> omega
theorem homeR_bd {r : Int} (h : 0 ≤ r ∧ r ≤ 3) : 0 ≤ homeR r ∧ homeR r < 64 := by unfold homeR atSq; repeat' split <;> omega
def bitI (n : Int) (k : Nat) : Int := n / 2 ^ k % 2
theorem bit_all : ((List.range 16).all fun n => (List.range 4).all fun k => band .i64 (bshr .i64 (n : Int) (k : Int)) 1 == bitI n k) = true := by kernel_rfl
theorem bit_eq {n : Int} {k : Nat} (h : 0 ≤ n ∧ n ≤ 15) (hk : k < 4) : band .i64 (bshr .i64 n k) 1 = bitI n k := by
  have := List.all_eq_true.1 (List.all_eq_true.1 bit_all n.toNat (by simp; omega)) k (by simp; omega)
  rw [Int.toNat_of_nonneg h.1] at this
  simpa using this
theorem shl_all : ((List.range 4).all fun k => bshl .i64 1 (k : Int) == 2 ^ k) = true := by kernel_rfl
theorem shl_eq {k : Nat} (hk : k < 4) : bshl .i64 1 k = 2 ^ k := by
  have := List.all_eq_true.1 shl_all k (by simp; omega)
  simpa using this
def rightB (c : Nat → Int) (k : Nat) : Bool := decide (bitI (c 65) k = 1) && decide (c (homeK k).toNat = 1 + 6 * ((k : Int) / 2)) && decide (c (homeR k).toNat = 3 + 6 * ((k : Int) / 2))
def rightsN (c : Nat → Int) : Nat → Int
  | 0 => 0
  | k + 1 => rightsN c k + if rightB c k = true then 2 ^ k else 0
theorem rightsN_bd (c : Nat → Int) : ∀ {k : Nat}, k ≤ 4 → 0 ≤ rightsN c k ∧ rightsN c k ≤ 15 := by
  have h : ∀ b : Bool, ∀ n : Int, 0 ≤ n → 0 ≤ (if b = true then n else 0) ∧ (if b = true then n else 0) ≤ n := by intro b n hn; cases b <;> simp <;> omega
  have h0 := h (rightB c 0) (2 ^ 0) (by decide)
  have h1 := h (rightB c 1) (2 ^ 1) (by decide)
  have h2 := h (rightB c 2) (2 ^ 2) (by decide)
  have h3 := h (rightB c 3) (2 ^ 3) (by decide)
  intro k hk
  have : k = 0 ∨ k = 1 ∨ k = 2 ∨ k = 3 ∨ k = 4 := by omega
  rcases this with rfl | rfl | rfl | rfl | rfl <;> simp only [rightsN] <;> omega
attribute [local irreducible] band bshr bshl homeK homeR rightsN in
set_option maxHeartbeats 4000000 in
set_option maxRecDepth 20000 in
theorem rights_ok (c : Nat → Int) (hc : 0 ≤ c 65 ∧ c 65 ≤ 15) : FnP (Tz z) 61 [posV c] (.int .i64 (rightsN c 4)) := by
  refine ⟨by simp [posV_pl], Pl.int, start [0, 1, 2, 3, 4, 5, 6, 8, 41] Tryz.func61 rfl (by decide) rfl (by kernel_rfl) (by simp [Tryz.f61]) ?_⟩
  simp only [Tryz.f61]
  unfold posV
  repeat' (first | (have hb1 := homeK_bd (r := (k : Int)) ⟨by omega, by omega⟩; have hb2 := homeR_bd (r := (k : Int)) ⟨by omega, by omega⟩; clear mk) | (with_reducible first | refine draw (by kernel_rfl) (by kernel_rfl) ?_ | refine loop (V := [0, 1, 2, 3, 4, 5, 6, 8, 41]) (fun k : Nat => ([(1, .pointer (some ⟨100, 0, none⟩)), (3, .int .i64 (rightsN c k)), (4, .int .i64 k)], [.cells (ints .i64 69 c) 24])) (fun k => k ≤ 4) (fun k => 4 - k) 0 (by kernel_rfl) ?_ ?_ (fun k hk => (fun hr (mk : True) => ?_) (rightsN_bd c hk) trivial) | refine call_p (home_ok (by omega)) ?_ | refine qG_call (home_ok (by omega)) ?_ | refine zG_call (home_ok (by omega)) ?_ | refine yG_call (home_ok (by omega)) ?_ | refine piG_call (home_ok (by omega)) ?_ | refine call_p (of_ok (by omega) (by omega)) ?_ | refine qG_call (of_ok (by omega) (by omega)) ?_ | refine zG_call (of_ok (by omega) (by omega)) ?_ | refine yG_call (of_ok (by omega) (by omega)) ?_ | refine piG_call (of_ok (by omega) (by omega)) ?_ | refine seq_k fun K hK => ?_) | (with_reducible refine hK _ _ ?_; clear hK) | ((with_reducible first | refine gd_dec ?_ ?_ | refine gd_ndec ?_ ?_ | refine qC_dec ?_ ?_ | refine qC_ndec ?_ ?_ | refine piC_dec ?_ ?_ | refine piC_ndec ?_ ?_ | refine zC_dec ?_ ?_ | refine zC_ndec ?_ ?_ | refine zD_dec ?_ ?_ | refine yC_dec ?_ ?_ | refine yC_ndec ?_ ?_ | refine if_dec ?_ ?_ | refine if_ndec ?_ ?_) <;> intro hh) | simp -implicitDefEqProofs (disch := first | omega | assumption) only [go_sem, ↓reduceIte, Nat.reduceEqDiff, Int.reduceEq, Nat.reduceAdd, Nat.reduceSub, Nat.reduceMul, Nat.mul_one, Nat.one_mul, List.length_nil, List.length_cons, List.nil_append, List.cons_append, List.length_append, List.set_cons_zero, List.set_cons_succ, Nat.zero_add, Nat.sub_zero, Option.isNone_none, Option.isNone_some, Int.toNat_natCast, Nat.add_sub_cancel_left, Bool.not_true, Bool.not_false, BitVec.reduceOfInt, Int.reduceToNat] | ((with_reducible first | refine gd_bool ?_ ?_ | refine if_bool ?_ ?_ | refine qC_bool ?_ ?_ | refine piC_bool ?_ ?_ | refine zC_bool ?_ ?_ | refine zD_bool ?_ ?_ | refine yC_bool ?_ ?_) <;> intro hh) | clear hK)
  · exact Nat.zero_le 4
  · exact VS.sub (by simp [Fr.sub, Fr.get, rightsN])
  · have hb : rightB c k = true := by
      have e := bit_eq hc (show k < 4 by omega)
      unfold rightB; rw [← e]; simp_all
    have h1 := rightsN_bd c (k := k + 1) (by omega)
    have h2 : rightsN c (k + 1) = rightsN c k + bshl .i64 1 k := by rw [shl_eq (by omega), rightsN, if_pos hb]
    refine ⟨k + 1, by omega, by omega, VS.sub ?_⟩
    rw [← h2, wrap_i64 (by omega)]
    simp [Fr.sub, Fr.get]
  all_goals first
    | (rw [show k = 4 by omega]; done)
    | (have hb : ¬ rightB c k = true := by
        have e := bit_eq hc (show k < 4 by omega)
        unfold rightB; rw [← e]; simp_all
       have h2 : rightsN c (k + 1) = rightsN c k := by rw [rightsN, if_neg hb]; omega
       refine ⟨k + 1, by omega, by omega, VS.sub ?_⟩
       rw [h2]
       simp [Fr.sub, Fr.get])
end Go.Tb
end
section
namespace Go.Tb
open Go Go.Proofs
variable {z : Nat × Nat}
set_option maxRecDepth 20000
def whiteOf (B : Brd) : BitVec 64 := B.wk ||| B.wq ||| B.wr ||| B.wb ||| B.wn ||| B.wp
def blackOf (B : Brd) : BitVec 64 := B.bk ||| B.bq ||| B.br ||| B.bb ||| B.bn ||| B.bp
def calcB (B : Brd) : Brd := { B with w := whiteOf B, b := blackOf B, e := ~~~(whiteOf B ||| blackOf B) }
def calcM (B : Brd) (M : Mv) : Brd := if M.s1 = B.wks then { calcB B with wks := M.s2 } else if M.s1 = B.bks then { calcB B with bks := M.s2 } else calcB B
def lastK (p : Nat → Bool) : Nat → Int
  | 0 => -1
  | k + 1 => if p k = true then k else lastK p k
def calcN (B : Brd) : Brd := { calcB B with wks := lastK (fun k => occB B.wk k) 64, bks := lastK (fun k => !occB B.wk k && occB B.bk k) 64 }
theorem bm_wv : ∀ u ∈ [Value.pointer (some ⟨100, 0, none⟩), Value.pointer (some ⟨101, 0, none⟩)], WF (100 + 2) u := by
  intro u hu
  simp only [List.mem_cons, List.not_mem_nil, or_false] at hu
  rcases hu with rfl | rfl <;> exact WF_ptrN (by decide)
theorem bm_wl (B : Brd) (M : Mv) : ∀ o ∈ [AO.cells (boardL B) 110, AO.cells (mvL M) 60], o.wf (100 + 2) := by
  intro o ho
  simp only [List.mem_cons, List.not_mem_nil, or_false] at ho
  rcases ho with rfl | rfl
  · exact fun u hu => (boardL_pl B u hu).wf _
  · exact fun u hu => (mvL_pl M u hu).wf _
theorem VS.sub2 {X : Cx} {n0 : Nat} {r fr : Fr} {L L' : List AO} (h : Fr.sub r fr) (hL : L = L') : VS X n0 (fr, L) (r, L') := hL ▸ VS.sub h
theorem calcB_wk (B : Brd) : (calcB B).wk = B.wk := rfl
theorem calcB_bk (B : Brd) : (calcB B).bk = B.bk := rfl
set_option maxHeartbeats 2000000 in
theorem calcM_ok (B : Brd) (M : Mv) : FnM (Tz z) 77 [.pointer (some ⟨100, 0, none⟩), .pointer (some ⟨101, 0, none⟩)] [.cells (boardL B) 110, .cells (mvL M) 60] (fun _ : Unit => True) (fun _ => .tuple #[]) (fun _ => [.cells (boardL (calcM B M)) 110, .cells (mvL M) 60]) := by
  refine ⟨bm_wv, bm_wl B M, fun _ _ o ho => by simp at ho, start [0, 1, 4, 5, 6, 7, 8, 83, 92, 93, 102, 112, 118, 135] Tryz.func77 rfl (by decide) rfl (by kernel_rfl) (by simp [Tryz.f77]) ?_⟩
  simp only [Tryz.f77]
  repeat' (first | (with_reducible first | refine draw (by kernel_rfl) (by kernel_rfl) ?_ | apply pz_e | apply pz_eg | apply py_e | refine seq_k fun K hK => ?_) | (with_reducible refine hK _ _ ?_; clear hK) | ((with_reducible first | refine gd_dec ?_ ?_ | refine gd_ndec ?_ ?_ | refine qC_dec ?_ ?_ | refine qC_ndec ?_ ?_ | refine piC_dec ?_ ?_ | refine piC_ndec ?_ ?_ | refine zC_dec ?_ ?_ | refine zC_ndec ?_ ?_ | refine zD_dec ?_ ?_ | refine yC_dec ?_ ?_ | refine yC_ndec ?_ ?_ | refine if_dec ?_ ?_ | refine if_ndec ?_ ?_) <;> intro hh) | simp -implicitDefEqProofs (disch := first | omega | assumption) only [go_sem, ↓reduceIte, Nat.reduceEqDiff, Int.reduceEq, Nat.reduceAdd, Nat.reduceSub, Nat.reduceMul, Nat.mul_one, Nat.one_mul, List.length_nil, List.length_cons, List.nil_append, List.cons_append, List.length_append, List.set_cons_zero, List.set_cons_succ, Nat.zero_add, Nat.sub_zero, Option.isNone_none, Option.isNone_some, Int.toNat_natCast, Nat.add_sub_cancel_left, Bool.not_true, Bool.not_false, BitVec.reduceOfInt, Int.reduceToNat] | ((with_reducible first | refine gd_bool ?_ ?_ | refine if_bool ?_ ?_ | refine qC_bool ?_ ?_ | refine piC_bool ?_ ?_ | refine zC_bool ?_ ?_ | refine zD_bool ?_ ?_ | refine yC_bool ?_ ?_) <;> intro hh) | clear hK)
  all_goals (refine ⟨(), trivial, ?_, ?_⟩; first | trivial | rfl)
  all_goals first
    | (rw [show calcM B M = _ from if_pos (by assumption)]; first | rfl | trivial)
    | (rw [show calcM B M = _ from (if_neg (by assumption)).trans (if_pos (by assumption))]; first | rfl | trivial)
    | (rw [show calcM B M = _ from (if_neg (by assumption)).trans (if_neg (by assumption))]; first | rfl | trivial)
set_option maxHeartbeats 4000000 in
theorem calcN_ok (B : Brd) : FnM (Tz z) 77 [.pointer (some ⟨100, 0, none⟩), .pointer none] [.cells (boardL B) 110] (fun _ : Unit => True) (fun _ => .tuple #[]) (fun _ => [.cells (boardL (calcN B)) 110]) := by
  refine ⟨?_, ?_, fun _ _ o ho => by simp at ho, start [0, 1, 4, 5, 6, 7, 8, 83, 92, 93, 102, 112, 118, 135] Tryz.func77 rfl (by decide) rfl (by kernel_rfl) (by simp [Tryz.f77]) ?_⟩
  · intro u hu
    simp only [List.mem_cons, List.not_mem_nil, or_false] at hu
    rcases hu with rfl | rfl
    · exact WF_ptrN (by simp)
    · exact Pl.ptr0.wf _
  · intro o ho
    simp only [List.mem_cons, List.not_mem_nil, or_false] at ho
    subst ho
    exact fun u hu => (boardL_pl B u hu).wf _
  simp only [Tryz.f77]
  repeat' (first | (with_reducible first | refine draw (by kernel_rfl) (by kernel_rfl) ?_ | apply pz_e | apply pz_eg | apply py_e | refine loop (V := [0, 1, 4, 5, 6, 7, 8, 83, 92, 93, 102, 112, 118, 135]) (fun k : Nat => ([(0, .pointer (some ⟨100, 0, none⟩)), (92, .int .i64 k)], [.cells (boardL { calcB B with wks := lastK (fun k => occB B.wk k) k, bks := lastK (fun k => !occB B.wk k && occB B.bk k) k }) 110])) (fun k => k ≤ 64) (fun k => 64 - k) 0 (by kernel_rfl) ?_ ?_ (fun k hk => ?_) | refine call_p (occ_ok (by omega)) ?_ | refine qG_call (occ_ok (by omega)) ?_ | refine zG_call (occ_ok (by omega)) ?_ | refine yG_call (occ_ok (by omega)) ?_ | refine piG_call (occ_ok (by omega)) ?_ | refine seq_k fun K hK => ?_) | (with_reducible refine hK _ _ ?_; clear hK) | ((with_reducible first | refine gd_dec ?_ ?_ | refine gd_ndec ?_ ?_ | refine qC_dec ?_ ?_ | refine qC_ndec ?_ ?_ | refine piC_dec ?_ ?_ | refine piC_ndec ?_ ?_ | refine zC_dec ?_ ?_ | refine zC_ndec ?_ ?_ | refine zD_dec ?_ ?_ | refine yC_dec ?_ ?_ | refine yC_ndec ?_ ?_ | refine if_dec ?_ ?_ | refine if_ndec ?_ ?_) <;> intro hh) | simp -implicitDefEqProofs (disch := first | omega | assumption) only [go_sem, ↓reduceIte, Nat.reduceEqDiff, Int.reduceEq, Nat.reduceAdd, Nat.reduceSub, Nat.reduceMul, Nat.mul_one, Nat.one_mul, List.length_nil, List.length_cons, List.nil_append, List.cons_append, List.length_append, List.set_cons_zero, List.set_cons_succ, Nat.zero_add, Nat.sub_zero, Option.isNone_none, Option.isNone_some, Int.toNat_natCast, Nat.add_sub_cancel_left, Bool.not_true, Bool.not_false, BitVec.reduceOfInt, Int.reduceToNat] | ((with_reducible first | refine gd_bool ?_ ?_ | refine if_bool ?_ ?_ | refine qC_bool ?_ ?_ | refine piC_bool ?_ ?_ | refine zC_bool ?_ ?_ | refine zD_bool ?_ ?_ | refine yC_bool ?_ ?_) <;> intro hh) | clear hK)
  · exact Nat.zero_le _
  · exact VS.sub2 (by simp [Fr.sub, Fr.get]) rfl
  · simp only [calcB_wk, calcB_bk] at *
    exact ⟨k + 1, by omega, by omega, VS.sub2 (by simp [Fr.sub, Fr.get]) (by simp [lastK, *])⟩
  · simp only [calcB_wk, calcB_bk] at *
    exact ⟨k + 1, by omega, by omega, VS.sub2 (by simp [Fr.sub, Fr.get]) (by simp [lastK, *])⟩
  · simp only [calcB_wk, calcB_bk] at *
    exact ⟨k + 1, by omega, by omega, VS.sub2 (by simp [Fr.sub, Fr.get]) (by simp [lastK, *])⟩
  · obtain rfl : k = 64 := by omega
    exact ⟨(), trivial, trivial, rfl⟩
def mapTo (g : BitVec 64 → BitVec 64) (k : Nat) (B : Brd) : Brd :=
  { B with wk := if 0 < k then g B.wk else B.wk, wq := if 1 < k then g B.wq else B.wq, wr := if 2 < k then g B.wr else B.wr, wb := if 3 < k then g B.wb else B.wb, wn := if 4 < k then g B.wn else B.wn, wp := if 5 < k then g B.wp else B.wp,
           bk := if 6 < k then g B.bk else B.bk, bq := if 7 < k then g B.bq else B.bq, br := if 8 < k then g B.br else B.br, bb := if 9 < k then g B.bb else B.bb, bn := if 10 < k then g B.bn else B.bn, bp := if 11 < k then g B.bp else B.bp }
theorem k12 {k : Nat} (h : k < 12) : k = 0 ∨ k = 1 ∨ k = 2 ∨ k = 3 ∨ k = 4 ∨ k = 5 ∨ k = 6 ∨ k = 7 ∨ k = 8 ∨ k = 9 ∨ k = 10 ∨ k = 11 := by omega
theorem mapTo_get (g : BitVec 64 → BitVec 64) {k : Nat} (B : Brd) (h : k < 12) : getP (mapTo g k B) ((k : Int) + 1) = B.f k := by
  rw [getP_k]
  rcases k12 h with rfl | rfl | rfl | rfl | rfl | rfl | rfl | rfl | rfl | rfl | rfl | rfl <;> rfl
theorem mapTo_put (g : BitVec 64 → BitVec 64) {k : Nat} (B : Brd) (h : k < 12) : putP (mapTo g k B) ((k : Int) + 1) (g (B.f k)) = mapTo g (k + 1) B := by
  unfold putP
  rw [show ((k : Int) + 1 - 1).toNat = k by omega]
  rcases k12 h with rfl | rfl | rfl | rfl | rfl | rfl | rfl | rfl | rfl | rfl | rfl | rfl <;> rfl
theorem put_get (B : Brd) {k : Nat} (h : k < 12) (x : BitVec 64) : getP (putP B ((k : Int) + 1) x) ((k : Int) + 1) = x := by
  rw [getP_k]
  unfold putP
  rw [show ((k : Int) + 1 - 1).toNat = k by omega]
  rcases k12 h with rfl | rfl | rfl | rfl | rfl | rfl | rfl | rfl | rfl | rfl | rfl | rfl <;> rfl
theorem put_put (B : Brd) {k : Nat} (h : k < 12) (x y : BitVec 64) : putP (putP B ((k : Int) + 1) x) ((k : Int) + 1) y = putP B ((k : Int) + 1) y := by
  unfold putP
  rw [show ((k : Int) + 1 - 1).toNat = k by omega]
  rcases k12 h with rfl | rfl | rfl | rfl | rfl | rfl | rfl | rfl | rfl | rfl | rfl | rfl <;> rfl
def mvBB (s1 s2 : Int) (x : BitVec 64) : BitVec 64 := if occB x s1 = true then (x &&& ~~~ sqB s2) &&& ~~~ sqB s1 ||| sqB s2 else x &&& ~~~ sqB s2
def updA (B : Brd) (M : Mv) : Brd := mapTo (mvBB M.s1 M.s2) 12 B
def updP (B : Brd) (M : Mv) (p : Int) : Brd :=
  if M.promo = 0 then B else
    let B' := putP B p (getP B p &&& ~~~ sqB M.s2)
    let q := M.promo + 6 * (pCol p - 1)
    putP B' q (getP B' q ||| sqB M.s2)
def tagOn (M : Mv) (g : Int) : Bool := decide (0 < band .u16 g M.tags)
def updE (B : Brd) (M : Mv) (p : Int) : Brd :=
  if tagOn M 8 = true then (if pCol p = 1 then { B with bp := ~~~ (sqB M.s2 <<< 8) &&& B.bp } else { B with wp := ~~~ (sqB M.s2 >>> 8) &&& B.wp }) else B
def updC (B : Brd) (M : Mv) (p : Int) : Brd :=
  if pCol p = 1 ∧ tagOn M 1 = true then { B with wr := B.wr &&& ~~~ sqB 7 ||| sqB 5 }
  else if pCol p = 1 ∧ tagOn M 2 = true then { B with wr := B.wr &&& ~~~ sqB 0 ||| sqB 3 }
  else if pCol p = 2 ∧ tagOn M 1 = true then { B with br := B.br &&& ~~~ sqB 63 ||| sqB 61 }
  else if pCol p = 2 ∧ tagOn M 2 = true then { B with br := B.br &&& ~~~ sqB 56 ||| sqB 59 }
  else B
def updB (B : Brd) (M : Mv) : Brd :=
  let p := pieceAt B M.s1
  calcM (updC (updE (updP (updA B M) M p) M p) M p) M
end Go.Tb
end
section
namespace Go.Tb
open Go Go.Proofs
variable {z : Nat × Nat}
set_option maxRecDepth 20000
section
variable {X : Cx}
theorem map_rl_id (c : List Value) : c.map (rl fun i => i) = c := by
  conv => rhs; rw [← List.map_id c]
  exact List.map_congr_left fun v _ => rl_id v
theorem VS.cut {n0 : Nat} {v : Value} {L G : List AO} (hn : n0 ≤ L.length) (hw : ∀ o ∈ L, o.wf (100 + L.length)) (hv : WF (100 + L.length) v) : VS X n0 ([(0, v)], L ++ G) ([(0, v)], L) := by
  have hg : ∀ i o, L[i]? = some o → (X.pad ++ (L ++ G))[100 + i]? = some o := fun i o h => by
    rw [get_own, List.getElem?_append_left (List.getElem?_eq_some_iff.1 h).1]; exact h
  refine VS.rename (fun i => i) (fun _ _ => rfl) (fun i o hi h _ => ?_) hn (fun i hi => by simp; omega) (fun i j o h _ hj e => e) (fun i c T h => ?_) (fun i b c h => ?_) (fun i o h => hg i _ h) (fun t y hy => ?_)
  · rw [List.getElem?_append_left (by omega)] at h; exact h
  · rw [map_rl_id]; exact ⟨hg i _ h, hw _ (List.mem_of_getElem? h)⟩
  · rw [map_rl_id]; exact ⟨hg i _ h, hw _ (List.mem_of_getElem? h)⟩
  · simp only [Fr.get] at hy
    split at hy
    · rename_i e; subst e; simp only [Option.some.injEq] at hy; subst hy
      exact ⟨by simp [Fr.get, rl_id], hv⟩
    · cases hy
theorem CallM.cut {f : FuncId} {vs : List Value} {L L1 : List AO} {r : Value} (hn : L.length ≤ L1.length) (hw : ∀ o ∈ L1, o.wf (100 + L1.length)) (hv : WF (100 + L1.length) r) (h : CallM X f vs L fun v M => v = r ∧ ∃ G, M = L1 ++ G) : CallM X f vs L fun v M => v = r ∧ M = L1 :=
  CallM.shift (h.mono fun v M ⟨h1, G, h2⟩ => ⟨v, L1, by rw [h2, h1]; exact VS.cut hn hw hv, h1, rfl⟩)
end
theorem pb_wl (D : Pd) (B : Brd) : ∀ o ∈ [AO.cells (psL 101 nilS D) 82, AO.cells (boardL B) 110], o.wf (100 + 2) := by
  intro o ho
  simp only [List.mem_cons, List.not_mem_nil, or_false] at ho
  rcases ho with rfl | rfl
  · exact psL_wf (by decide) (Pl.nilS.wf _)
  · exact fun u hu => (boardL_pl B u hu).wf _
def inChk (D : Pd) (B : Brd) : Bool :=
  let k := if D.turn = 2 then B.bks else B.wks
  if k = -1 then false else attS B D.turn k
theorem attOne (B : Brd) (t k : Int) : ((List.range [k].length).any fun i => attS B t (i8C [k] i)) = attS B t k := by simp [i8C]
theorem one_bd {k : Int} (h : 0 ≤ k ∧ k ≤ 63) : ∀ i, 0 ≤ i8C [k] i ∧ i8C [k] i ≤ 63 := by
  intro i
  rcases i with _ | i
  · exact h
  · simp [i8C]
set_option maxHeartbeats 4000000 in
theorem inChk_ok (D : Pd) (B : Brd) (ht : D.turn = 1 ∨ D.turn = 2) (hw : -1 ≤ B.wks ∧ B.wks ≤ 63) (hb : -1 ≤ B.bks ∧ B.bks ≤ 63) : FnR2 (Tz z) 63 D B [] (.bool (inChk D B)) := by
  refine ⟨by simp, Pl.bool, CallM.cut (by simp) (pb_wl D B) (Pl.bool.wf _) (start [0, 2, 3, 13, 22] Tryz.func63 rfl (by decide) rfl (by kernel_rfl) (by simp [Tryz.f63]) ?_)⟩
  simp only [Tryz.f63]
  repeat' (first | ((with_reducible refine call_r2 101 (turn_ok D B) ?_ ?_ ?_ ?_ ?_ ?_); (· first | omega | decide); (· first | rfl | assumption | simp; done); (· first | omega | decide); (· first | rfl | assumption | simp; done); (· first | omega | decide)) | ((with_reducible refine qG_r2 101 (turn_ok D B) ?_ ?_ ?_ ?_ ?_ ?_); (· first | omega | decide); (· first | rfl | assumption | simp; done); (· first | omega | decide); (· first | rfl | assumption | simp; done); (· first | omega | decide)) | ((with_reducible refine zG_r2 101 (turn_ok D B) ?_ ?_ ?_ ?_ ?_ ?_); (· first | omega | decide); (· first | rfl | assumption | simp; done); (· first | omega | decide); (· first | rfl | assumption | simp; done); (· first | omega | decide)) | ((with_reducible refine call_rd (att_ok D B [B.bks] (one_bd (by omega)) (by simp) ht) [0, 1, 2] ?_ ?_ ?_ ?_); (· kernel_rfl); (· exact ⟨by kernel_rfl, by kernel_rfl, by kernel_rfl, trivial⟩); (· kernel_rfl); simp only [rl_bool, attOne]) | ((with_reducible refine call_rd (att_ok D B [B.wks] (one_bd (by omega)) (by simp) ht) [0, 1, 2] ?_ ?_ ?_ ?_); (· kernel_rfl); (· exact ⟨by kernel_rfl, by kernel_rfl, by kernel_rfl, trivial⟩); (· kernel_rfl); simp only [rl_bool, attOne]) | with_reducible refine seq_k fun K hK => ?_ | (with_reducible refine hK _ _ ?_; clear hK) | ((with_reducible first | refine gd_dec ?_ ?_ | refine gd_ndec ?_ ?_ | refine qC_dec ?_ ?_ | refine qC_ndec ?_ ?_ | refine piC_dec ?_ ?_ | refine piC_ndec ?_ ?_ | refine zC_dec ?_ ?_ | refine zC_ndec ?_ ?_ | refine zD_dec ?_ ?_ | refine yC_dec ?_ ?_ | refine yC_ndec ?_ ?_ | refine if_dec ?_ ?_ | refine if_ndec ?_ ?_) <;> intro hh) | simp -implicitDefEqProofs (disch := first | omega | assumption) only [go_sem, ↓reduceIte, Nat.reduceEqDiff, Int.reduceEq, Nat.reduceAdd, Nat.reduceSub, Nat.reduceMul, Nat.mul_one, Nat.one_mul, List.length_nil, List.length_cons, List.nil_append, List.cons_append, List.length_append, List.set_cons_zero, List.set_cons_succ, Nat.zero_add, Nat.sub_zero, Option.isNone_none, Option.isNone_some, Int.toNat_natCast, Nat.add_sub_cancel_left, Bool.not_true, Bool.not_false, BitVec.reduceOfInt, Int.reduceToNat] | ((with_reducible first | refine gd_bool ?_ ?_ | refine if_bool ?_ ?_ | refine qC_bool ?_ ?_ | refine piC_bool ?_ ?_ | refine zC_bool ?_ ?_ | refine zD_bool ?_ ?_ | refine yC_bool ?_ ?_) <;> intro hh) | clear hK)
  all_goals first
    | (refine ⟨?_, _, rfl⟩; simp [inChk, *]; done)
    | (refine ⟨?_, _, rfl⟩; unfold inChk; simp only [*, ↓reduceIte]; done)
    | skip
end Go.Tb
end
