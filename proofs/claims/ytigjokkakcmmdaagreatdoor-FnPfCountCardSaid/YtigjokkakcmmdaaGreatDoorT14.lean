/-
  A part of the proof (my own): of the texts that the claim's last text rests on: parts B7, C1, C2, C3, C4.
-/
import Derived.Test.YtigjokkakcmmdaaGreatDoorT12
import Derived.Test.YtigjokkakcmmdaaGreatDoorT13
import Derived.Test.YtigjokkakcmmdaaGreatDoorT10
set_option linter.unusedSimpArgs false
set_option linter.unusedVariables false
section
namespace Go.Tb
open Go Go.Proofs
variable {z : Nat × Nat}
set_option maxRecDepth 20000
section
variable {X : Cx}
theorem map_rl_id (c : List Value) : c.map (rl fun i => i) = c := by
  conv => rhs; rw [← List.map_id c]
  exact List.map_congr_left fun v _ => rl_id v
theorem VS.cut {n0 : Nat} {v : Value} {L G : List AO} (hn : n0 ≤ L.length) (hw : ∀ o ∈ L, o.wf (100 + L.length)) (hv : WF (100 + L.length) v) : VS X n0 ([(0, v)], L ++ G) ([(0, v)], L) := by
  have hg : ∀ i o, L[i]? = some o → (X.pad ++ (L ++ G))[100 + i]? = some o := fun i o h => by
    rw [get_own, List.getElem?_append_left (List.getElem?_eq_some_iff.1 h).1]; exact h
  refine VS.rename (fun i => i) (fun _ _ => rfl) (fun i o hi h _ => ?_) hn (fun i hi => by simp; omega) (fun i j o h _ hj e => e) (fun i c T h => ?_) (fun i b c h => ?_) (fun i o h => hg i _ h) (fun t y hy => ?_)
  · rw [List.getElem?_append_left (by omega)] at h; exact h
  · rw [map_rl_id]; exact ⟨hg i _ h, hw _ (List.mem_of_getElem? h)⟩
  · rw [map_rl_id]; exact ⟨hg i _ h, hw _ (List.mem_of_getElem? h)⟩
  · simp only [Fr.get] at hy
    split at hy
    · rename_i e; subst e; simp only [Option.some.injEq] at hy; subst hy
      exact ⟨by simp [Fr.get, rl_id], hv⟩
    · cases hy
theorem CallM.cut {f : FuncId} {vs : List Value} {L L1 : List AO} {r : Value} (hn : L.length ≤ L1.length) (hw : ∀ o ∈ L1, o.wf (100 + L1.length)) (hv : WF (100 + L1.length) r) (h : CallM X f vs L fun v M => v = r ∧ ∃ G, M = L1 ++ G) : CallM X f vs L fun v M => v = r ∧ M = L1 :=
  CallM.shift (h.mono fun v M ⟨h1, G, h2⟩ => ⟨v, L1, by rw [h2, h1]; exact VS.cut hn hw hv, h1, rfl⟩)
end
theorem pb_wl (D : Pd) (B : Brd) : ∀ o ∈ [AO.cells (psL 101 nilS D) 82, AO.cells (boardL B) 110], o.wf (100 + 2) := by
  intro o ho
  simp only [List.mem_cons, List.not_mem_nil, or_false] at ho
  rcases ho with rfl | rfl
  · exact psL_wf (by decide) (Pl.nilS.wf _)
  · exact fun u hu => (boardL_pl B u hu).wf _
def inChk (D : Pd) (B : Brd) : Bool :=
  let k := if D.turn = 2 then B.bks else B.wks
  if k = -1 then false else attS B D.turn k
theorem attOne (B : Brd) (t k : Int) : ((List.range [k].length).any fun i => attS B t (i8C [k] i)) = attS B t k := by simp [i8C]
theorem one_bd {k : Int} (h : 0 ≤ k ∧ k ≤ 63) : ∀ i, 0 ≤ i8C [k] i ∧ i8C [k] i ≤ 63 := by
  intro i
  rcases i with _ | i
  · exact h
  · simp [i8C]
set_option maxHeartbeats 4000000 in
theorem inChk_ok (D : Pd) (B : Brd) (ht : D.turn = 1 ∨ D.turn = 2) (hw : -1 ≤ B.wks ∧ B.wks ≤ 63) (hb : -1 ≤ B.bks ∧ B.bks ≤ 63) : FnR2 (Tz z) 63 D B [] (.bool (inChk D B)) := by
  refine ⟨by simp, Pl.bool, CallM.cut (by simp) (pb_wl D B) (Pl.bool.wf _) (start [0, 2, 3, 13, 22] Tryz.func63 rfl (by decide) rfl (by kernel_rfl) (by simp [Tryz.f63]) ?_)⟩
  simp only [Tryz.f63]
  repeat' (first | ((with_reducible refine call_r2 101 (turn_ok D B) ?_ ?_ ?_ ?_ ?_ ?_); (· first | omega | decide); (· first | rfl | assumption | simp; done); (· first | omega | decide); (· first | rfl | assumption | simp; done); (· first | omega | decide)) | ((with_reducible refine qG_r2 101 (turn_ok D B) ?_ ?_ ?_ ?_ ?_ ?_); (· first | omega | decide); (· first | rfl | assumption | simp; done); (· first | omega | decide); (· first | rfl | assumption | simp; done); (· first | omega | decide)) | ((with_reducible refine zG_r2 101 (turn_ok D B) ?_ ?_ ?_ ?_ ?_ ?_); (· first | omega | decide); (· first | rfl | assumption | simp; done); (· first | omega | decide); (· first | rfl | assumption | simp; done); (· first | omega | decide)) | ((with_reducible refine call_rd (att_ok D B [B.bks] (one_bd (by omega)) (by simp) ht) [0, 1, 2] ?_ ?_ ?_ ?_); (· kernel_rfl); (· exact ⟨by kernel_rfl, by kernel_rfl, by kernel_rfl, trivial⟩); (· kernel_rfl); simp only [rl_bool, attOne]) | ((with_reducible refine call_rd (att_ok D B [B.wks] (one_bd (by omega)) (by simp) ht) [0, 1, 2] ?_ ?_ ?_ ?_); (· kernel_rfl); (· exact ⟨by kernel_rfl, by kernel_rfl, by kernel_rfl, trivial⟩); (· kernel_rfl); simp only [rl_bool, attOne]) | with_reducible refine seq_k fun K hK => ?_ | (with_reducible refine hK _ _ ?_; clear hK) | with_reducible refine gd_dec (fun hh => ?_) (fun hh => ?_) | with_reducible refine gd_ndec (fun hh => ?_) (fun hh => ?_) | with_reducible refine qC_dec (fun hh => ?_) (fun hh => ?_) | with_reducible refine qC_ndec (fun hh => ?_) (fun hh => ?_) | with_reducible refine piC_dec (fun hh => ?_) (fun hh => ?_) | with_reducible refine piC_ndec (fun hh => ?_) (fun hh => ?_) | with_reducible refine zC_dec (fun hh => ?_) (fun hh => ?_) | with_reducible refine zC_ndec (fun hh => ?_) (fun hh => ?_) | with_reducible refine zD_dec (fun hh => ?_) (fun hh => ?_) | with_reducible refine yC_dec (fun hh => ?_) (fun hh => ?_) | with_reducible refine yC_ndec (fun hh => ?_) (fun hh => ?_) | with_reducible refine if_dec (fun hh => ?_) (fun hh => ?_) | with_reducible refine if_ndec (fun hh => ?_) (fun hh => ?_) | simp -implicitDefEqProofs (disch := first | omega | assumption) only [go_sem, ↓reduceIte, Nat.reduceEqDiff, Int.reduceEq, Nat.reduceAdd, Nat.reduceSub, Nat.reduceMul, Nat.mul_one, Nat.one_mul, List.length_nil, List.length_cons, List.nil_append, List.cons_append, List.length_append, List.set_cons_zero, List.set_cons_succ, Nat.zero_add, Nat.sub_zero, Option.isNone_none, Option.isNone_some, Int.toNat_natCast, Nat.add_sub_cancel_left, Bool.not_true, Bool.not_false, BitVec.reduceOfInt, Int.reduceToNat] | with_reducible refine gd_bool (fun hh => ?_) (fun hh => ?_) | with_reducible refine if_bool (fun hh => ?_) (fun hh => ?_) | with_reducible refine qC_bool (fun hh => ?_) (fun hh => ?_) | with_reducible refine piC_bool (fun hh => ?_) (fun hh => ?_) | with_reducible refine zC_bool (fun hh => ?_) (fun hh => ?_) | with_reducible refine zD_bool (fun hh => ?_) (fun hh => ?_) | with_reducible refine yC_bool (fun hh => ?_) (fun hh => ?_) | clear hK)
  all_goals first
    | (refine ⟨?_, _, rfl⟩; simp [inChk, *]; done)
    | (refine ⟨?_, _, rfl⟩; unfold inChk; simp only [*, ↓reduceIte]; done)
    | skip
end Go.Tb
end
section
namespace Go.Tb
open Go Go.Proofs
variable {z : Nat × Nat}
set_option maxRecDepth 20000
abbrev mV (f t p : Int) : Value := .agg [.int .i64 f, .int .i64 t, .int .i64 p].toArray
theorem mV_pl (f t p : Int) : Pl (mV f t p) := Pl.agg (by simp [Pl.int])
def takesSq (c : Nat → Int) (f t : Int) : Int := if c t.toNat ≠ 0 then t else if kindOf (c f.toNat) = 6 ∧ f % 8 ≠ t % 8 then atSq (t % 8) (f / 8) else -1
def takesIs (c : Nat → Int) (f t : Int) : Bool := if c t.toNat ≠ 0 then true else if kindOf (c f.toNat) = 6 ∧ f % 8 ≠ t % 8 then true else false
set_option maxHeartbeats 2000000 in
theorem takes_ok (c : Nat → Int) {f t p : Int} (hf : 0 ≤ f ∧ f ≤ 63) (ht : 0 ≤ t ∧ t ≤ 63) (hc : 0 ≤ c f.toNat ∧ c f.toNat ≤ 12) : FnP (Tz z) 29 [posV c, mV f t p] (.tuple [.int .i64 (takesSq c f t), .bool (takesIs c f t)].toArray) := by
  refine ⟨by simp [posV_pl, mV_pl], Pl.tuple (by simp [Pl.int, Pl.bool]), start [0, 1, 2, 3, 4, 5, 11, 29] Tryz.func29 rfl (by decide) rfl (by kernel_rfl) (by simp [Tryz.f29]) ?_⟩
  simp only [Tryz.f29]
  unfold posV
  repeat' (first | with_reducible refine draw (by kernel_rfl) (by kernel_rfl) ?_ | with_reducible apply pz_e | with_reducible apply pz_eg | with_reducible apply py_e | with_reducible refine call_p (kindOf_ok (by omega) (by omega)) ?_ | with_reducible refine qG_call (kindOf_ok (by omega) (by omega)) ?_ | with_reducible refine zG_call (kindOf_ok (by omega) (by omega)) ?_ | with_reducible refine yG_call (kindOf_ok (by omega) (by omega)) ?_ | with_reducible refine piG_call (kindOf_ok (by omega) (by omega)) ?_ | with_reducible refine call_p (file_ok (by omega)) ?_ | with_reducible refine qG_call (file_ok (by omega)) ?_ | with_reducible refine zG_call (file_ok (by omega)) ?_ | with_reducible refine yG_call (file_ok (by omega)) ?_ | with_reducible refine piG_call (file_ok (by omega)) ?_ | with_reducible refine call_p (rank_ok (by omega) (by omega)) ?_ | with_reducible refine qG_call (rank_ok (by omega) (by omega)) ?_ | with_reducible refine zG_call (rank_ok (by omega) (by omega)) ?_ | with_reducible refine yG_call (rank_ok (by omega) (by omega)) ?_ | with_reducible refine piG_call (rank_ok (by omega) (by omega)) ?_ | with_reducible refine call_p (at_ok (by omega) (by omega)) ?_ | with_reducible refine qG_call (at_ok (by omega) (by omega)) ?_ | with_reducible refine zG_call (at_ok (by omega) (by omega)) ?_ | with_reducible refine yG_call (at_ok (by omega) (by omega)) ?_ | with_reducible refine piG_call (at_ok (by omega) (by omega)) ?_ | with_reducible refine seq_k fun K hK => ?_ | (with_reducible refine hK _ _ ?_; clear hK) | with_reducible refine gd_dec (fun hh => ?_) (fun hh => ?_) | with_reducible refine gd_ndec (fun hh => ?_) (fun hh => ?_) | with_reducible refine qC_dec (fun hh => ?_) (fun hh => ?_) | with_reducible refine qC_ndec (fun hh => ?_) (fun hh => ?_) | with_reducible refine piC_dec (fun hh => ?_) (fun hh => ?_) | with_reducible refine piC_ndec (fun hh => ?_) (fun hh => ?_) | with_reducible refine zC_dec (fun hh => ?_) (fun hh => ?_) | with_reducible refine zC_ndec (fun hh => ?_) (fun hh => ?_) | with_reducible refine zD_dec (fun hh => ?_) (fun hh => ?_) | with_reducible refine yC_dec (fun hh => ?_) (fun hh => ?_) | with_reducible refine yC_ndec (fun hh => ?_) (fun hh => ?_) | with_reducible refine if_dec (fun hh => ?_) (fun hh => ?_) | with_reducible refine if_ndec (fun hh => ?_) (fun hh => ?_) | simp -implicitDefEqProofs (disch := first | omega | assumption) only [go_sem, ↓reduceIte, Nat.reduceEqDiff, Int.reduceEq, Nat.reduceAdd, Nat.reduceSub, Nat.reduceMul, Nat.mul_one, Nat.one_mul, List.length_nil, List.length_cons, List.nil_append, List.cons_append, List.length_append, List.set_cons_zero, List.set_cons_succ, Nat.zero_add, Nat.sub_zero, Option.isNone_none, Option.isNone_some, Int.toNat_natCast, Nat.add_sub_cancel_left, Bool.not_true, Bool.not_false, BitVec.reduceOfInt, Int.reduceToNat] | with_reducible refine gd_bool (fun hh => ?_) (fun hh => ?_) | with_reducible refine if_bool (fun hh => ?_) (fun hh => ?_) | with_reducible refine qC_bool (fun hh => ?_) (fun hh => ?_) | with_reducible refine piC_bool (fun hh => ?_) (fun hh => ?_) | with_reducible refine zC_bool (fun hh => ?_) (fun hh => ?_) | with_reducible refine zD_bool (fun hh => ?_) (fun hh => ?_) | with_reducible refine yC_bool (fun hh => ?_) (fun hh => ?_) | clear hK)
  all_goals (simp only [takesSq, takesIs, ne_eq, *, not_true, not_false_iff, ↓reduceIte, and_true, true_and, false_and, and_false])
def leftN (x f t : Int) : Nat → Int
  | 0 => x
  | k + 1 => let y := leftN x f t k; if bitI y k = 1 ∧ (f = homeK k ∨ f = homeR k ∨ t = homeK k ∨ t = homeR k) then y - 2 ^ k else y
theorem bitI_sub {n : Int} {k : Nat} (h : 0 ≤ n ∧ n ≤ 15) (hk : k < 4) (hb : bitI n k = 1) : 0 ≤ n - 2 ^ k ∧ n - 2 ^ k ≤ 15 := by
  have : k = 0 ∨ k = 1 ∨ k = 2 ∨ k = 3 := by omega
  rcases this with rfl | rfl | rfl | rfl <;> simp only [bitI] at hb <;> omega
theorem leftN_bd {x f t : Int} (hx : 0 ≤ x ∧ x ≤ 15) : ∀ {k : Nat}, k ≤ 4 → 0 ≤ leftN x f t k ∧ leftN x f t k ≤ 15
  | 0, _ => hx
  | k + 1, h => by
    have ih := leftN_bd (f := f) (t := t) hx (k := k) (by omega)
    simp only [leftN]
    split
    · rename_i hc; exact bitI_sub ih (by omega) hc.1
    · exact ih
attribute [local irreducible] band bshr bshl homeK homeR leftN in
set_option maxHeartbeats 2000000 in
theorem left_ok {x f t p : Int} (hx : 0 ≤ x ∧ x ≤ 15) (hf : 0 ≤ f ∧ f ≤ 63) (ht : 0 ≤ t ∧ t ≤ 63) : FnP (Tz z) 34 [.int .i64 x, mV f t p] (.int .i64 (leftN x f t 4)) := by
  refine ⟨by simp [Pl.int, mV_pl], Pl.int, start [0, 1, 3, 4, 5, 6, 7, 9, 45] Tryz.func34 rfl (by decide) rfl (by kernel_rfl) (by simp [Tryz.f34]) ?_⟩
  simp only [Tryz.f34]
  repeat' (first | with_reducible refine loop (V := [0, 1, 3, 4, 5, 6, 7, 9, 45]) (fun k : Nat => ([(0, .int .i64 (leftN x f t k)), (3, .pointer (some ⟨100, 0, none⟩)), (5, .int .i64 k)], [.cells [.int .i64 f, .int .i64 t, .int .i64 p] 38])) (fun k => k ≤ 4) (fun k => 4 - k) 0 (by kernel_rfl) ?_ ?_ (fun k hk => (fun hr => ?_) (leftN_bd (f := f) (t := t) hx hk)) | with_reducible refine call_p (home_ok (by omega)) ?_ | with_reducible refine qG_call (home_ok (by omega)) ?_ | with_reducible refine zG_call (home_ok (by omega)) ?_ | with_reducible refine yG_call (home_ok (by omega)) ?_ | with_reducible refine piG_call (home_ok (by omega)) ?_ | with_reducible refine seq_k fun K hK => ?_ | (with_reducible refine hK _ _ ?_; clear hK) | with_reducible refine gd_dec (fun hh => ?_) (fun hh => ?_) | with_reducible refine gd_ndec (fun hh => ?_) (fun hh => ?_) | with_reducible refine qC_dec (fun hh => ?_) (fun hh => ?_) | with_reducible refine qC_ndec (fun hh => ?_) (fun hh => ?_) | with_reducible refine piC_dec (fun hh => ?_) (fun hh => ?_) | with_reducible refine piC_ndec (fun hh => ?_) (fun hh => ?_) | with_reducible refine zC_dec (fun hh => ?_) (fun hh => ?_) | with_reducible refine zC_ndec (fun hh => ?_) (fun hh => ?_) | with_reducible refine zD_dec (fun hh => ?_) (fun hh => ?_) | with_reducible refine yC_dec (fun hh => ?_) (fun hh => ?_) | with_reducible refine yC_ndec (fun hh => ?_) (fun hh => ?_) | with_reducible refine if_dec (fun hh => ?_) (fun hh => ?_) | with_reducible refine if_ndec (fun hh => ?_) (fun hh => ?_) | simp -implicitDefEqProofs (disch := first | omega | assumption) only [go_sem, ↓reduceIte, Nat.reduceEqDiff, Int.reduceEq, Nat.reduceAdd, Nat.reduceSub, Nat.reduceMul, Nat.mul_one, Nat.one_mul, List.length_nil, List.length_cons, List.nil_append, List.cons_append, List.length_append, List.set_cons_zero, List.set_cons_succ, Nat.zero_add, Nat.sub_zero, Option.isNone_none, Option.isNone_some, Int.toNat_natCast, Nat.add_sub_cancel_left, Bool.not_true, Bool.not_false, BitVec.reduceOfInt, Int.reduceToNat] | with_reducible refine gd_bool (fun hh => ?_) (fun hh => ?_) | with_reducible refine if_bool (fun hh => ?_) (fun hh => ?_) | with_reducible refine qC_bool (fun hh => ?_) (fun hh => ?_) | with_reducible refine piC_bool (fun hh => ?_) (fun hh => ?_) | with_reducible refine zC_bool (fun hh => ?_) (fun hh => ?_) | with_reducible refine zD_bool (fun hh => ?_) (fun hh => ?_) | with_reducible refine yC_bool (fun hh => ?_) (fun hh => ?_) | clear hK)
  · exact Nat.zero_le _
  · exact VS.sub2 (by simp [Fr.sub, Fr.get, leftN]) rfl
  all_goals first
    | (have hk4 : k = 4 := by omega
       subst hk4
       first | rfl | trivial)
    | (have e := bit_eq hr (show k < 4 by omega)
       have h2 : leftN x f t (k + 1) = leftN x f t k - 2 ^ k := by
         simp only [leftN]; rw [← e]; clear e; exact if_pos ⟨by assumption, by simp [*]⟩
       have h3 := leftN_bd (f := f) (t := t) hx (k := k + 1) (by omega)
       refine ⟨k + 1, by omega, by omega, VS.sub2 ?_ rfl⟩
       rw [shl_eq (by omega), ← h2, wrap_i64 (n := leftN x f t (k + 1)) (by omega)]
       simp [Fr.sub, Fr.get]; done)
    | (have e := bit_eq hr (show k < 4 by omega)
       have h2 : leftN x f t (k + 1) = leftN x f t k := by
         simp only [leftN]
         refine if_neg fun hc => ?_
         rw [← e] at hc
         clear e
         obtain ⟨q1, q2 | q2 | q2 | q2⟩ := hc <;> contradiction
       refine ⟨k + 1, by omega, by omega, VS.sub2 ?_ rfl⟩
       rw [h2]
       simp [Fr.sub, Fr.get]; done)
end Go.Tb
end
section
namespace Go.Tb
open Go Go.Proofs
variable {z : Nat × Nat}
set_option maxRecDepth 20000
def mdTake (c : Nat → Int) (f t : Int) : Nat → Int := if takesIs c f t = true then upd c (takesSq c f t).toNat 0 else c
def mdMove (c : Nat → Int) (f t : Int) : Nat → Int := upd (upd (mdTake c f t) f.toNat 0) t.toNat (c f.toNat)
def mdProm (c : Nat → Int) (f t p : Int) : Nat → Int := if p = 0 then mdMove c f t else upd (mdMove c f t) t.toNat (p + 6 * c 64)
def cornerOf (f t : Int) : Int := if t < f then atSq 0 (f / 8) else atSq 7 (f / 8)
def isCastle (c : Nat → Int) (f t : Int) : Prop := kindOf (c f.toNat) = 1 ∧ (t = f + 2 ∨ t = f - 2)
instance (c : Nat → Int) (f t : Int) : Decidable (isCastle c f t) := by unfold isCastle; infer_instance
def mdCast (c : Nat → Int) (f t p : Int) : Nat → Int := if isCastle c f t then upd (upd (mdProm c f t p) (cornerOf f t).toNat 0) ((f + t) / 2).toNat (3 + 6 * c 64) else mdProm c f t p
def isJump (c : Nat → Int) (f t : Int) : Prop := kindOf (c f.toNat) = 6 ∧ (t = f + 16 ∨ t = f - 16)
instance (c : Nat → Int) (f t : Int) : Decidable (isJump c f t) := by unfold isJump; infer_instance
def mdEp (c : Nat → Int) (f t : Int) : Int := if isJump c f t then (f + t) / 2 else -1
def mdHalf (c : Nat → Int) (f t : Int) : Int := if takesIs c f t = true ∨ kindOf (c f.toNat) = 6 then 0 else c 67 + 1
def madeC (c : Nat → Int) (f t p : Int) : Nat → Int := upd (upd (upd (upd (upd (mdCast c f t p) 65 (leftN (c 65) f t 4)) 66 (mdEp c f t)) 67 (mdHalf c f t)) 68 (c 68 + c 64)) 64 (1 - c 64)
theorem upd_at (g : Nat → Int) (i : Nat) (v : Int) (j : Nat) : upd g i v j = if j = i then v else g j := rfl
theorem upd_upd (g : Nat → Int) (i : Nat) (v w : Int) : upd (upd g i v) i w = upd g i w := by funext j; simp only [upd]; split <;> rfl
theorem atSq_bd {f r : Int} (hf : 0 ≤ f ∧ f ≤ 7) (hr : 0 ≤ r ∧ r ≤ 7) : 0 ≤ atSq f r ∧ atSq f r < 64 := by unfold atSq; split <;> omega
theorem takesSq_bd {c : Nat → Int} {f t : Int} (hf : 0 ≤ f ∧ f ≤ 63) (ht : 0 ≤ t ∧ t ≤ 63) (h : takesIs c f t = true) : 0 ≤ takesSq c f t ∧ takesSq c f t < 64 := by
  unfold takesIs at h
  unfold takesSq
  split
  · omega
  · split
    · exact atSq_bd (by omega) (by omega)
    · rename_i h1 h2; rw [if_neg h1, if_neg h2] at h; cases h
theorem corner_bd {f t : Int} (hf : 0 ≤ f ∧ f ≤ 63) : 0 ≤ cornerOf f t ∧ cornerOf f t < 64 := by
  unfold cornerOf; split <;> exact atSq_bd (by omega) (by omega)
theorem mdTake_hi {c : Nat → Int} {f t : Int} (hf : 0 ≤ f ∧ f ≤ 63) (ht : 0 ≤ t ∧ t ≤ 63) {j : Nat} (hj : 64 ≤ j) : mdTake c f t j = c j := by
  unfold mdTake
  split
  · have := takesSq_bd hf ht (by assumption)
    rw [upd_at, if_neg (by omega)]
  · rfl
theorem mdCast_hi {c : Nat → Int} {f t p : Int} (hf : 0 ≤ f ∧ f ≤ 63) (ht : 0 ≤ t ∧ t ≤ 63) {j : Nat} (hj : 64 ≤ j) : mdCast c f t p j = c j := by
  have h1 : mdMove c f t j = c j := by
    unfold mdMove; rw [upd_at, if_neg (by omega), upd_at, if_neg (by omega), mdTake_hi hf ht hj]
  have h2 : mdProm c f t p j = c j := by
    unfold mdProm; split
    · exact h1
    · rw [upd_at, if_neg (by omega), h1]
  have := corner_bd (t := t) hf
  unfold mdCast; split
  · rw [upd_at, if_neg (by omega), upd_at, if_neg (by omega), h2]
  · exact h2
theorem wr_ints {g : Nat → Int} {T : TypeId} {L : List AO} {i : Nat} : wrC (some (.cells (List.replicate 69 (.int .i64 0)) T)) L i 69 0 (ints .i64 69 g) = some (L.set i (.cells (ints .i64 69 g) T)) := by
  rw [wrC_in (ints_len _ _ _) (ints_one _ _ _) (by simp), spl_eq (by simp [ints_len])]
  simp [ints_len]
theorem pickV_T {b : Bool} {x y : Option Value} (h : b = true) : pickV (some (.bool b)) x y = x := by rw [h]; rfl
theorem pickV_F {b : Bool} {x y : Option Value} (h : b = false) : pickV (some (.bool b)) x y = y := by rw [h]; rfl
theorem onGd_T {X : Cx} {b : Bool} (h : b = true) (want : Bool) (all : List Oper) (o : Oper) (rest : List Oper) (fr : Fr) (L : List AO) (K : Fr → List AO → Prop) : onGd X (some (.bool b)) want all o rest fr L K = onGd X (some (.bool true)) want all o rest fr L K := by rw [h]
theorem onGd_F {X : Cx} {b : Bool} (h : b = false) (want : Bool) (all : List Oper) (o : Oper) (rest : List Oper) (fr : Fr) (L : List AO) (K : Fr → List AO → Prop) : onGd X (some (.bool b)) want all o rest fr L K = onGd X (some (.bool false)) want all o rest fr L K := by rw [h]
theorem sub3 (a b d : Value) : sub [a, b, d] 0 3 = some [a, b, d] := rfl
theorem wr_int69 {g : Nat → Int} {T : TypeId} {L : List AO} {i o : Nat} {n : Int} (h : o < 69) : wrC (some (.cells (ints .i64 69 g) T)) L i 1 o [.int .i64 n] = some (L.set i (.cells (ints .i64 69 (upd g o n)) T)) := by
  rw [wrC_int (by rw [ints_len]; exact h), ints_set]
set_option maxHeartbeats 8000000 in
theorem made_ok (c : Nat → Int) {f t p : Int} (hf : 0 ≤ f ∧ f ≤ 63) (ht : 0 ≤ t ∧ t ≤ 63) (hp : 0 ≤ p ∧ p ≤ 12) (hb : Bd c) (h64 : 0 ≤ c 64 ∧ c 64 ≤ 1) (h65 : 0 ≤ c 65 ∧ c 65 ≤ 15) (h67 : 0 ≤ c 67 ∧ c 67 ≤ 1000000) (h68 : 0 ≤ c 68 ∧ c 68 ≤ 1000000) :
    FnP (Tz z) 13 [posV c, mV f t p] (posV (madeC c f t p)) := by
  refine ⟨by simp [posV_pl, mV_pl], posV_pl _, start [0, 1, 2, 3, 4, 5, 6, 7, 8, 9, 22, 37, 65, 74, 117, 134] Tryz.func13 rfl (by decide) rfl (by kernel_rfl) (by simp [Tryz.f13]) ?_⟩
  have hx := hb f.toNat (by omega)
  have hq : takesIs c f t = true → 0 ≤ takesSq c f t ∧ takesSq c f t < 64 := takesSq_bd hf ht
  have hc0 := atSq_bd (f := 0) (r := f / 8) (by omega) (by omega)
  have hc7 := atSq_bd (f := 7) (r := f / 8) (by omega) (by omega)
  have e67 := mdCast_hi (c := c) (p := p) hf ht (j := 67) (by decide)
  have e68 := mdCast_hi (c := c) (p := p) hf ht (j := 68) (by decide)
  simp only [Tryz.f13]
  unfold posV
  repeat' (first | (have hq1 := hq (by assumption); clear hq) | with_reducible refine seq_i (a := Code.seq (Code.region 4 _ _) _) [(2, .pointer (some ⟨100, 0, none⟩)), (3, .pointer (some ⟨101, 0, none⟩)), (4, .pointer (some ⟨102, 0, none⟩)), (5, .int .i64 (c f.toNat)), (7, .bool (takesIs c f t)), (8, .pointer (some ⟨103, 0, none⟩))] [.cells (ints .i64 69 c) 24, .cells [.int .i64 f, .int .i64 t, .int .i64 p] 38, .cells (List.replicate 69 (.int .i64 0)) 24, .cells (ints .i64 69 (mdTake c f t)) 24] ?_ (fun K hJ => ?_) | with_reducible refine seq_i (a := Code.seq (Code.region 8 _ _) _) [(2, .pointer (some ⟨100, 0, none⟩)), (3, .pointer (some ⟨101, 0, none⟩)), (4, .pointer (some ⟨102, 0, none⟩)), (5, .int .i64 (c f.toNat)), (7, .bool (takesIs c f t)), (8, .pointer (some ⟨103, 0, none⟩))] [.cells (ints .i64 69 c) 24, .cells [.int .i64 f, .int .i64 t, .int .i64 p] 38, .cells (List.replicate 69 (.int .i64 0)) 24, .cells (ints .i64 69 (mdProm c f t p)) 24] ?_ (fun K hJ => ?_) | with_reducible refine seq_i (a := Code.seq (Code.region 10 _ _) _) [(2, .pointer (some ⟨100, 0, none⟩)), (3, .pointer (some ⟨101, 0, none⟩)), (4, .pointer (some ⟨102, 0, none⟩)), (5, .int .i64 (c f.toNat)), (7, .bool (takesIs c f t)), (8, .pointer (some ⟨103, 0, none⟩))] [.cells (ints .i64 69 c) 24, .cells [.int .i64 f, .int .i64 t, .int .i64 p] 38, .cells (List.replicate 69 (.int .i64 0)) 24, .cells (ints .i64 69 (mdCast c f t p)) 24] ?_ (fun K hJ => ?_) | with_reducible refine seq_i (a := Code.seq (Code.region 18 _ _) _) [(2, .pointer (some ⟨100, 0, none⟩)), (3, .pointer (some ⟨101, 0, none⟩)), (4, .pointer (some ⟨102, 0, none⟩)), (5, .int .i64 (c f.toNat)), (7, .bool (takesIs c f t)), (8, .pointer (some ⟨103, 0, none⟩))] [.cells (ints .i64 69 c) 24, .cells [.int .i64 f, .int .i64 t, .int .i64 p] 38, .cells (List.replicate 69 (.int .i64 0)) 24, .cells (ints .i64 69 (upd (upd (mdCast c f t p) 65 (leftN (c 65) f t 4)) 66 (mdEp c f t))) 24] ?_ (fun K hJ => ?_) | with_reducible refine seq_i (a := Code.seq (Code.region 21 _ _) _) [(2, .pointer (some ⟨100, 0, none⟩)), (3, .pointer (some ⟨101, 0, none⟩)), (4, .pointer (some ⟨102, 0, none⟩)), (5, .int .i64 (c f.toNat)), (7, .bool (takesIs c f t)), (8, .pointer (some ⟨103, 0, none⟩))] [.cells (ints .i64 69 c) 24, .cells [.int .i64 f, .int .i64 t, .int .i64 p] 38, .cells (List.replicate 69 (.int .i64 0)) 24, .cells (ints .i64 69 (upd (upd (upd (mdCast c f t p) 65 (leftN (c 65) f t 4)) 66 (mdEp c f t)) 67 (mdHalf c f t))) 24] ?_ (fun K hJ => ?_) | (with_reducible refine hJ _ _ ?_; clear hJ; refine VS.sub2 ?_ ?_) | with_reducible refine draw4 (id := 9) [.q, .r, .q, .r, .q, .r, .r, .q, .q, .e []] [false, false, false, false, false, false, false, false, false, true] (by kernel_rfl) (by kernel_rfl) (by kernel_rfl) ?_ | with_reducible refine draw4 (id := 15) [.q, .r, .q, .r, .q, .q, .q, .r, .r, .q, .q, .e []] [false, false, false, false, false, false, false, false, false, false, false, true] (by kernel_rfl) (by kernel_rfl) (by kernel_rfl) ?_ | with_reducible refine draw (by kernel_rfl) (by kernel_rfl) ?_ | with_reducible apply pz_e | with_reducible apply pz_eg | with_reducible apply py_e | with_reducible refine call_p (takes_ok c hf ht hx) ?_ | with_reducible refine qG_call (takes_ok c hf ht hx) ?_ | with_reducible refine zG_call (takes_ok c hf ht hx) ?_ | with_reducible refine yG_call (takes_ok c hf ht hx) ?_ | with_reducible refine piG_call (takes_ok c hf ht hx) ?_ | with_reducible refine call_p (of_ok (by omega) (by omega)) ?_ | with_reducible refine qG_call (of_ok (by omega) (by omega)) ?_ | with_reducible refine zG_call (of_ok (by omega) (by omega)) ?_ | with_reducible refine yG_call (of_ok (by omega) (by omega)) ?_ | with_reducible refine piG_call (of_ok (by omega) (by omega)) ?_ | with_reducible refine call_p (kindOf_ok (by omega) (by omega)) ?_ | with_reducible refine qG_call (kindOf_ok (by omega) (by omega)) ?_ | with_reducible refine zG_call (kindOf_ok (by omega) (by omega)) ?_ | with_reducible refine yG_call (kindOf_ok (by omega) (by omega)) ?_ | with_reducible refine piG_call (kindOf_ok (by omega) (by omega)) ?_ | with_reducible refine call_p (rank_ok (by omega) (by omega)) ?_ | with_reducible refine qG_call (rank_ok (by omega) (by omega)) ?_ | with_reducible refine zG_call (rank_ok (by omega) (by omega)) ?_ | with_reducible refine yG_call (rank_ok (by omega) (by omega)) ?_ | with_reducible refine piG_call (rank_ok (by omega) (by omega)) ?_ | with_reducible refine call_p (at_ok (by omega) (by omega)) ?_ | with_reducible refine qG_call (at_ok (by omega) (by omega)) ?_ | with_reducible refine zG_call (at_ok (by omega) (by omega)) ?_ | with_reducible refine yG_call (at_ok (by omega) (by omega)) ?_ | with_reducible refine piG_call (at_ok (by omega) (by omega)) ?_ | with_reducible refine call_p (left_ok h65 hf ht) ?_ | with_reducible refine qG_call (left_ok h65 hf ht) ?_ | with_reducible refine zG_call (left_ok h65 hf ht) ?_ | with_reducible refine yG_call (left_ok h65 hf ht) ?_ | with_reducible refine piG_call (left_ok h65 hf ht) ?_ | with_reducible refine seq_k fun K hK => ?_ | (with_reducible refine hK _ _ ?_; clear hK) | with_reducible refine gd_dec (fun hh => ?_) (fun hh => ?_) | with_reducible refine gd_ndec (fun hh => ?_) (fun hh => ?_) | with_reducible refine qC_dec (fun hh => ?_) (fun hh => ?_) | with_reducible refine qC_ndec (fun hh => ?_) (fun hh => ?_) | with_reducible refine piC_dec (fun hh => ?_) (fun hh => ?_) | with_reducible refine piC_ndec (fun hh => ?_) (fun hh => ?_) | with_reducible refine zC_dec (fun hh => ?_) (fun hh => ?_) | with_reducible refine zC_ndec (fun hh => ?_) (fun hh => ?_) | with_reducible refine zD_dec (fun hh => ?_) (fun hh => ?_) | with_reducible refine yC_dec (fun hh => ?_) (fun hh => ?_) | with_reducible refine yC_ndec (fun hh => ?_) (fun hh => ?_) | with_reducible refine if_dec (fun hh => ?_) (fun hh => ?_) | with_reducible refine if_ndec (fun hh => ?_) (fun hh => ?_) | simp -implicitDefEqProofs (disch := first | omega | assumption) only [go_sem, ↓reduceIte, Nat.reduceEqDiff, Int.reduceEq, Nat.reduceAdd, Nat.reduceSub, Nat.reduceMul, Nat.mul_one, Nat.one_mul, List.length_nil, List.length_cons, List.nil_append, List.cons_append, List.length_append, List.set_cons_zero, List.set_cons_succ, Nat.zero_add, Nat.sub_zero, Option.isNone_none, Option.isNone_some, Int.toNat_natCast, Nat.add_sub_cancel_left, Bool.not_true, Bool.not_false, BitVec.reduceOfInt, Int.reduceToNat, pickV_T, pickV_F, onGd_T, onGd_F, sub3, wr_ints, wr_int69, upd_at, e67, e68] | with_reducible refine gd_bool (fun hh => ?_) (fun hh => ?_) | with_reducible refine if_bool (fun hh => ?_) (fun hh => ?_) | with_reducible refine qC_bool (fun hh => ?_) (fun hh => ?_) | with_reducible refine piC_bool (fun hh => ?_) (fun hh => ?_) | with_reducible refine zC_bool (fun hh => ?_) (fun hh => ?_) | with_reducible refine zD_bool (fun hh => ?_) (fun hh => ?_) | with_reducible refine yC_bool (fun hh => ?_) (fun hh => ?_) | clear hK)
  all_goals first
    | rfl
    | (simp [Fr.sub, Fr.get]; done)
    | (simp [upd_upd, mdEp, mdHalf, mdCast, mdProm, mdMove, mdTake, isCastle, isJump, cornerOf, *]; done)
    | (rw [show mdCast c f t p = _ from if_pos ⟨by assumption, .inl (by assumption)⟩, show cornerOf f t = _ from if_neg (by omega)]; done)
    | (rw [show mdCast c f t p = _ from if_pos ⟨by assumption, .inr (by assumption)⟩, show cornerOf f t = _ from if_pos (by omega)]; done)
end Go.Tb
end
section
namespace Go.Tb
open Go Go.Proofs
variable {z : Nat × Nat}
set_option maxRecDepth 20000
def passB (c : Nat → Int) : Bool :=
  if c 66 < 0 ∨ 63 < c 66 then decide (c 66 = -1)
  else if c 66 / 8 ≠ 5 - 3 * c 64 ∨ c (c 66).toNat ≠ 0 then false
  else decide (c (atSq (c 66 % 8) (c 66 / 8 - (1 - 2 * c 64))).toNat = 6 + 6 * (1 - c 64)) && decide (c (atSq (c 66 % 8) (c 66 / 8 + (1 - 2 * c 64))).toNat = 0)
set_option maxHeartbeats 4000000 in
theorem passed_ok (c : Nat → Int) (h64 : 0 ≤ c 64 ∧ c 64 ≤ 1) : FnP (Tz z) 62 [posV c] (.bool (passB c)) := by
  refine ⟨by simp [posV_pl], Pl.bool, start [0, 1, 2, 3, 4, 5, 13, 40] Tryz.func62 rfl (by decide) rfl (by kernel_rfl) (by simp [Tryz.f62]) ?_⟩
  simp only [Tryz.f62]
  unfold posV
  have ha := fun (h : 0 ≤ c 66 ∧ c 66 ≤ 63) (h' : c 66 / 8 = 5 - 3 * c 64) => atSq_bd (f := c 66 % 8) (r := c 66 / 8 - (1 - 2 * c 64)) (by omega) (by omega)
  have hz := fun (h : 0 ≤ c 66 ∧ c 66 ≤ 63) (h' : c 66 / 8 = 5 - 3 * c 64) => atSq_bd (f := c 66 % 8) (r := c 66 / 8 + (1 - 2 * c 64)) (by omega) (by omega)
  repeat' (first | with_reducible refine draw (by kernel_rfl) (by kernel_rfl) ?_ | with_reducible apply pz_e | with_reducible apply pz_eg | with_reducible apply py_e | with_reducible refine call_p (file_ok (by omega)) ?_ | with_reducible refine qG_call (file_ok (by omega)) ?_ | with_reducible refine zG_call (file_ok (by omega)) ?_ | with_reducible refine yG_call (file_ok (by omega)) ?_ | with_reducible refine piG_call (file_ok (by omega)) ?_ | with_reducible refine call_p (rank_ok (by omega) (by omega)) ?_ | with_reducible refine qG_call (rank_ok (by omega) (by omega)) ?_ | with_reducible refine zG_call (rank_ok (by omega) (by omega)) ?_ | with_reducible refine yG_call (rank_ok (by omega) (by omega)) ?_ | with_reducible refine piG_call (rank_ok (by omega) (by omega)) ?_ | (have ha1 := ha (by omega) (by omega); have hz1 := hz (by omega) (by omega); clear ha hz) | with_reducible refine call_p (at_ok (by omega) (by omega)) ?_ | with_reducible refine qG_call (at_ok (by omega) (by omega)) ?_ | with_reducible refine zG_call (at_ok (by omega) (by omega)) ?_ | with_reducible refine yG_call (at_ok (by omega) (by omega)) ?_ | with_reducible refine piG_call (at_ok (by omega) (by omega)) ?_ | with_reducible refine call_p (of_ok (by omega) (by omega)) ?_ | with_reducible refine qG_call (of_ok (by omega) (by omega)) ?_ | with_reducible refine zG_call (of_ok (by omega) (by omega)) ?_ | with_reducible refine yG_call (of_ok (by omega) (by omega)) ?_ | with_reducible refine piG_call (of_ok (by omega) (by omega)) ?_ | with_reducible refine seq_k fun K hK => ?_ | (with_reducible refine hK _ _ ?_; clear hK) | with_reducible refine gd_dec (fun hh => ?_) (fun hh => ?_) | with_reducible refine gd_ndec (fun hh => ?_) (fun hh => ?_) | with_reducible refine qC_dec (fun hh => ?_) (fun hh => ?_) | with_reducible refine qC_ndec (fun hh => ?_) (fun hh => ?_) | with_reducible refine piC_dec (fun hh => ?_) (fun hh => ?_) | with_reducible refine piC_ndec (fun hh => ?_) (fun hh => ?_) | with_reducible refine zC_dec (fun hh => ?_) (fun hh => ?_) | with_reducible refine zC_ndec (fun hh => ?_) (fun hh => ?_) | with_reducible refine zD_dec (fun hh => ?_) (fun hh => ?_) | with_reducible refine yC_dec (fun hh => ?_) (fun hh => ?_) | with_reducible refine yC_ndec (fun hh => ?_) (fun hh => ?_) | with_reducible refine if_dec (fun hh => ?_) (fun hh => ?_) | with_reducible refine if_ndec (fun hh => ?_) (fun hh => ?_) | simp -implicitDefEqProofs (disch := first | omega | assumption) only [go_sem, ↓reduceIte, Nat.reduceEqDiff, Int.reduceEq, Nat.reduceAdd, Nat.reduceSub, Nat.reduceMul, Nat.mul_one, Nat.one_mul, List.length_nil, List.length_cons, List.nil_append, List.cons_append, List.length_append, List.set_cons_zero, List.set_cons_succ, Nat.zero_add, Nat.sub_zero, Option.isNone_none, Option.isNone_some, Int.toNat_natCast, Nat.add_sub_cancel_left, Bool.not_true, Bool.not_false, BitVec.reduceOfInt, Int.reduceToNat] | with_reducible refine gd_bool (fun hh => ?_) (fun hh => ?_) | with_reducible refine if_bool (fun hh => ?_) (fun hh => ?_) | with_reducible refine qC_bool (fun hh => ?_) (fun hh => ?_) | with_reducible refine piC_bool (fun hh => ?_) (fun hh => ?_) | with_reducible refine zC_bool (fun hh => ?_) (fun hh => ?_) | with_reducible refine zD_bool (fun hh => ?_) (fun hh => ?_) | with_reducible refine yC_bool (fun hh => ?_) (fun hh => ?_) | clear hK)
  all_goals first
    | (simp [passB, *]; done)
    | (simp [passB, *]; omega)
    | (have hne : ¬ c 66 < 0 := by omega
       simp [passB, *]; done)
    | (rw [passB, if_neg (by omega), if_neg (by simp [*]), decide_eq_true hh, Bool.true_and]; done)
    | (rw [passB, if_neg (by omega), if_neg (by simp [*]), decide_eq_false hh, Bool.false_and]; done)
    | (have hne : ¬ c 66 = -1 := by omega
       simp [passB, *]; done)
def befB (f t p f' t' p' : Int) : Bool := if f ≠ f' then decide (f < f') else if t ≠ t' then decide (t < t') else decide (p < p')
set_option maxHeartbeats 4000000 in
theorem before_ok (f t p f' t' p' : Int) : FnP (Tz z) 81 [mV f t p, mV f' t' p'] (.bool (befB f t p f' t' p')) := by
  refine ⟨by simp [mV_pl], Pl.bool, start [0, 1, 2, 3, 4, 9, 19] Tryz.func81 rfl (by decide) rfl (by kernel_rfl) (by simp [Tryz.f81]) ?_⟩
  simp only [Tryz.f81]
  repeat' (first | with_reducible refine draw (by kernel_rfl) (by kernel_rfl) ?_ | with_reducible apply pz_e | with_reducible apply pz_eg | with_reducible apply py_e | with_reducible refine seq_k fun K hK => ?_ | (with_reducible refine hK _ _ ?_; clear hK) | with_reducible refine gd_dec (fun hh => ?_) (fun hh => ?_) | with_reducible refine gd_ndec (fun hh => ?_) (fun hh => ?_) | with_reducible refine qC_dec (fun hh => ?_) (fun hh => ?_) | with_reducible refine qC_ndec (fun hh => ?_) (fun hh => ?_) | with_reducible refine piC_dec (fun hh => ?_) (fun hh => ?_) | with_reducible refine piC_ndec (fun hh => ?_) (fun hh => ?_) | with_reducible refine zC_dec (fun hh => ?_) (fun hh => ?_) | with_reducible refine zC_ndec (fun hh => ?_) (fun hh => ?_) | with_reducible refine zD_dec (fun hh => ?_) (fun hh => ?_) | with_reducible refine yC_dec (fun hh => ?_) (fun hh => ?_) | with_reducible refine yC_ndec (fun hh => ?_) (fun hh => ?_) | with_reducible refine if_dec (fun hh => ?_) (fun hh => ?_) | with_reducible refine if_ndec (fun hh => ?_) (fun hh => ?_) | simp -implicitDefEqProofs (disch := first | omega | assumption) only [go_sem, ↓reduceIte, Nat.reduceEqDiff, Int.reduceEq, Nat.reduceAdd, Nat.reduceSub, Nat.reduceMul, Nat.mul_one, Nat.one_mul, List.length_nil, List.length_cons, List.nil_append, List.cons_append, List.length_append, List.set_cons_zero, List.set_cons_succ, Nat.zero_add, Nat.sub_zero, Option.isNone_none, Option.isNone_some, Int.toNat_natCast, Nat.add_sub_cancel_left, Bool.not_true, Bool.not_false, BitVec.reduceOfInt, Int.reduceToNat] | with_reducible refine gd_bool (fun hh => ?_) (fun hh => ?_) | with_reducible refine if_bool (fun hh => ?_) (fun hh => ?_) | with_reducible refine qC_bool (fun hh => ?_) (fun hh => ?_) | with_reducible refine piC_bool (fun hh => ?_) (fun hh => ?_) | with_reducible refine zC_bool (fun hh => ?_) (fun hh => ?_) | with_reducible refine zD_bool (fun hh => ?_) (fun hh => ?_) | with_reducible refine yC_bool (fun hh => ?_) (fun hh => ?_) | clear hK)
  all_goals simp [befB, *]
end Go.Tb
end
section
namespace Go.Tb
open Go Go.Proofs
variable {z : Nat × Nat}
set_option maxRecDepth 20000
def cellB (c : Nat → Int) (i : Nat) : Prop := 0 ≤ c i ∧ c i ≤ 12 ∧ (kindOf (c i) = 6 → c i ≠ 0 → (i : Int) / 8 ≠ 0 ∧ (i : Int) / 8 ≠ 7)
structure ValidC (c : Nat → Int) : Prop where
  cells : ∀ i, i < 64 → cellB c i
  turn : 0 ≤ c 64 ∧ c 64 ≤ 1
  castle : 0 ≤ c 65 ∧ c 65 ≤ 15
  half : 0 ≤ c 67
  full : 1 ≤ c 68
  white : cntI c (1 + 6 * 0) 64 = 1
  black : cntI c (1 + 6 * 1) 64 = 1
  rights : rightsN c 4 = c 65
  pass : passB c = true
  safe : attB c (kingI c (1 - c 64)) (c 64) = false
theorem cells_bd {c : Nat → Int} {k : Nat} (hk : k ≤ 64 ∧ ∀ i, i < k → cellB c i) (h : 64 ≤ k) : Bd c := fun i hi => ⟨(hk.2 i (by omega)).1, (hk.2 i (by omega)).2.1⟩
theorem kingI_of {c : Nat → Int} {s : Int} (h : cntI c (1 + 6 * s) 64 = 1) : 0 ≤ kingI c s := by
  unfold cntI countI at h
  have h1 : (List.range 64).find? (fun i => decide (c i = 1 + 6 * s)) ≠ none := by
    intro h0
    rw [List.find?_eq_none] at h0
    rw [List.filter_eq_nil_iff.2 (fun a ha => by simpa using h0 a ha)] at h
    cases h
  unfold kingI findI
  split
  · omega
  · contradiction
open Classical in
set_option maxHeartbeats 4000000 in
theorem valid_ok (c : Nat → Int) : FnP (Tz z) 35 [posV c] (.bool (decide (ValidC c))) := by
  refine ⟨by simp [posV_pl], Pl.bool, start [0, 1, 2, 3, 4, 6, 37, 65, 85] Tryz.func35 rfl (by decide) rfl (by kernel_rfl) (by simp [Tryz.f35]) ?_⟩
  simp only [Tryz.f35]
  unfold posV
  have hq : ((cntI c (1 + 6 * 0) 64 : Nat) : Int) = 1 → ((cntI c (1 + 6 * 1) 64 : Nat) : Int) = 1 → (c 64 = 0 ∨ c 64 = 1) → 0 ≤ kingI c (1 - c 64) ∧ kingI c (1 - c 64) < 64 := fun a b d => by
    refine ⟨?_, (kingI_bd _ _).2⟩
    rcases d with d | d <;> rw [d]
    · rw [show (1 : Int) - 0 = 1 from rfl]; exact kingI_of (by omega)
    · rw [show (1 : Int) - 1 = 0 from rfl]; exact kingI_of (by omega)
  repeat' (first | with_reducible refine loop (V := [0, 1, 2, 3, 4, 6, 37, 65, 85]) (fun k : Nat => ([(1, .pointer (some ⟨100, 0, none⟩)), (3, .int .i64 k)], [.cells (ints .i64 69 c) 24])) (fun k => k ≤ 64 ∧ ∀ i, i < k → cellB c i) (fun k => 64 - k) 0 (by kernel_rfl) ?_ ?_ (fun k hk => ?_) | with_reducible refine call_p (kindOf_ok (by omega) (by omega)) ?_ | with_reducible refine qG_call (kindOf_ok (by omega) (by omega)) ?_ | with_reducible refine zG_call (kindOf_ok (by omega) (by omega)) ?_ | with_reducible refine yG_call (kindOf_ok (by omega) (by omega)) ?_ | with_reducible refine piG_call (kindOf_ok (by omega) (by omega)) ?_ | with_reducible refine call_p (rank_ok (by omega) (by omega)) ?_ | with_reducible refine qG_call (rank_ok (by omega) (by omega)) ?_ | with_reducible refine zG_call (rank_ok (by omega) (by omega)) ?_ | with_reducible refine yG_call (rank_ok (by omega) (by omega)) ?_ | with_reducible refine piG_call (rank_ok (by omega) (by omega)) ?_ | with_reducible refine draw (by kernel_rfl) (by kernel_rfl) ?_ | with_reducible apply pz_e | with_reducible apply pz_eg | with_reducible apply py_e | with_reducible refine call_p (count_ok c (by omega) (by omega)) ?_ | with_reducible refine qG_call (count_ok c (by omega) (by omega)) ?_ | with_reducible refine zG_call (count_ok c (by omega) (by omega)) ?_ | with_reducible refine yG_call (count_ok c (by omega) (by omega)) ?_ | with_reducible refine piG_call (count_ok c (by omega) (by omega)) ?_ | with_reducible refine call_p (rights_ok c (by omega)) ?_ | with_reducible refine qG_call (rights_ok c (by omega)) ?_ | with_reducible refine zG_call (rights_ok c (by omega)) ?_ | with_reducible refine yG_call (rights_ok c (by omega)) ?_ | with_reducible refine piG_call (rights_ok c (by omega)) ?_ | with_reducible refine call_p (passed_ok c (by omega)) ?_ | with_reducible refine qG_call (passed_ok c (by omega)) ?_ | with_reducible refine zG_call (passed_ok c (by omega)) ?_ | with_reducible refine yG_call (passed_ok c (by omega)) ?_ | with_reducible refine piG_call (passed_ok c (by omega)) ?_ | with_reducible refine call_p (kingAt_ok c (by omega)) ?_ | with_reducible refine qG_call (kingAt_ok c (by omega)) ?_ | with_reducible refine zG_call (kingAt_ok c (by omega)) ?_ | with_reducible refine yG_call (kingAt_ok c (by omega)) ?_ | with_reducible refine piG_call (kingAt_ok c (by omega)) ?_ | with_reducible refine call_p (attacked_ok c (by omega) (hq (by omega) (by omega) (by omega)) (cells_bd hk (by omega))) ?_ | with_reducible refine qG_call (attacked_ok c (by omega) (hq (by omega) (by omega) (by omega)) (cells_bd hk (by omega))) ?_ | with_reducible refine zG_call (attacked_ok c (by omega) (hq (by omega) (by omega) (by omega)) (cells_bd hk (by omega))) ?_ | with_reducible refine yG_call (attacked_ok c (by omega) (hq (by omega) (by omega) (by omega)) (cells_bd hk (by omega))) ?_ | with_reducible refine piG_call (attacked_ok c (by omega) (hq (by omega) (by omega) (by omega)) (cells_bd hk (by omega))) ?_ | with_reducible refine seq_k fun K hK => ?_ | (with_reducible refine hK _ _ ?_; clear hK) | with_reducible refine gd_dec (fun hh => ?_) (fun hh => ?_) | with_reducible refine gd_ndec (fun hh => ?_) (fun hh => ?_) | with_reducible refine qC_dec (fun hh => ?_) (fun hh => ?_) | with_reducible refine qC_ndec (fun hh => ?_) (fun hh => ?_) | with_reducible refine piC_dec (fun hh => ?_) (fun hh => ?_) | with_reducible refine piC_ndec (fun hh => ?_) (fun hh => ?_) | with_reducible refine zC_dec (fun hh => ?_) (fun hh => ?_) | with_reducible refine zC_ndec (fun hh => ?_) (fun hh => ?_) | with_reducible refine zD_dec (fun hh => ?_) (fun hh => ?_) | with_reducible refine yC_dec (fun hh => ?_) (fun hh => ?_) | with_reducible refine yC_ndec (fun hh => ?_) (fun hh => ?_) | with_reducible refine if_dec (fun hh => ?_) (fun hh => ?_) | with_reducible refine if_ndec (fun hh => ?_) (fun hh => ?_) | simp -implicitDefEqProofs (disch := first | omega | assumption) only [go_sem, ↓reduceIte, Nat.reduceEqDiff, Int.reduceEq, Nat.reduceAdd, Nat.reduceSub, Nat.reduceMul, Nat.mul_one, Nat.one_mul, List.length_nil, List.length_cons, List.nil_append, List.cons_append, List.length_append, List.set_cons_zero, List.set_cons_succ, Nat.zero_add, Nat.sub_zero, Option.isNone_none, Option.isNone_some, Int.toNat_natCast, Nat.add_sub_cancel_left, Bool.not_true, Bool.not_false, BitVec.reduceOfInt, Int.reduceToNat] | with_reducible refine gd_bool (fun hh => ?_) (fun hh => ?_) | with_reducible refine if_bool (fun hh => ?_) (fun hh => ?_) | with_reducible refine qC_bool (fun hh => ?_) (fun hh => ?_) | with_reducible refine piC_bool (fun hh => ?_) (fun hh => ?_) | with_reducible refine zC_bool (fun hh => ?_) (fun hh => ?_) | with_reducible refine zD_bool (fun hh => ?_) (fun hh => ?_) | with_reducible refine yC_bool (fun hh => ?_) (fun hh => ?_) | clear hK)
  all_goals first
    | exact ⟨by omega, fun i hi => by omega⟩
    | exact VS.sub (by simp [Fr.sub, Fr.get])
    | exact ⟨k + 1, ⟨by omega, all_succ hk.2 (by unfold cellB; omega)⟩, by omega, VS.sub (by simp [Fr.sub, Fr.get])⟩
    | (refine congrArg Value.bool (decide_eq_false (fun hv => ?_)).symm
       have v1 := hv.turn
       have v2 := hv.castle
       have v3 := hv.half
       have v4 := hv.full
       have v5 := hv.white
       have v6 := hv.black
       have v7 := hv.rights
       have v8 := hv.pass
       first
         | omega
         | (rw [v8] at hh; cases hh)
         | (have v9 := hv.cells k (by omega)
            unfold cellB at v9
            omega))
    | (refine congrArg Value.bool ?_
       cases ha : attB c (kingI c (1 - c 64)) (c 64) with
       | true => exact (decide_eq_false (fun hv => by rw [hv.safe] at ha; cases ha)).symm
       | false => exact (decide_eq_true (ValidC.mk (fun i hi => hk.2 i (by omega)) (by omega) (by omega) (by omega) (by omega) (by omega) (by omega) (by assumption) (by cases hp : passB c <;> simp_all) ha)).symm)
end Go.Tb
end
