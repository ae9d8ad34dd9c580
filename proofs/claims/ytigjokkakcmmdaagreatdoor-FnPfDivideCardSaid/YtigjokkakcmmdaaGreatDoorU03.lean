/-
  A part of the proof (my own): of the texts that the claim's last text rests on: parts R2, R3, R4, Eq, R5, S2, S3, V1, V2, V3, V4, P21, P22.
-/
import Derived.ChangeKeysEq
import Derived.Test.YtigjokkakcmmdaaGreatDoorU02
import Derived.Test.YtigjokkakcmmdaaGreatDoorT25
import Derived.Test.YtigjokkakcmmdaaGreatDoorT26
import Derived.Test.YtigjokkakcmmdaaGreatDoorT27
import Derived.Test.YtigjokkakcmmdaaGreatDoorT08
import Derived.Test.YtigjokkakcmmdaaGreatDoorT28
import Derived.Test.YtigjokkakcmmdaaGreatDoorU01
import Derived.Test.YtigjokkakcmmdaaGreatDoorT21
import Derived.Test.YtigjokkakcmmdaaGreatDoorT22
set_option linter.unusedSimpArgs false
set_option linter.unusedVariables false
section
namespace Go.Tb
open Go Go.Proofs
variable {z : Nat × Nat}
set_option maxRecDepth 20000
def hasN (l : List UInt8) (D : Pd) (B : Brd) : Nat := ((stdL D B).take 1).length + (csL l D B 4).length
def stI (l : List UInt8) (D : Pd) (B : Brd) : Int := if hasN l D B = 0 then (if D.chk = true then 1 else 4) else 0
end Go.Tb
end
section
namespace Go.Tb
open Go Go.Proofs
variable {z : Nat × Nat}
set_option maxRecDepth 20000
def flagP (M : Mv) (st : Int) : Nat → Bool := b8 true (tagOn M 4 || tagOn M 8) (tagOn M 8) (tagOn M 1 || tagOn M 2) (!decide (M.promo = 0)) (tagOn M 16) (decide (st = 1)) (decide (st = 4))
def fp8 (M : Mv) (st : Int) : List Value := [.bool true, .bool (tagOn M 4 || tagOn M 8), .bool (tagOn M 8), .bool (tagOn M 1 || tagOn M 2), .bool (!decide (M.promo = 0)), .bool (tagOn M 16), .bool (decide (st = 1)), .bool (decide (st = 4))]
def stS (s : PSt) : Int := stI s.1 s.2.1 s.2.2
def p1 (s : PSt) (M : Mv) (i : Nat) : Int := if flagP M (stS (nxt s M)) i = true then 1 else 0
def ptN : Nat → PSt → Nat → Int
  | 0, _, _ => 0
  | 1, s, i => sumK (fun k => p1 s (vAt (allS s) k) i) (allS s).length
  | d + 2, s, i => sumK (fun k => ptN (d + 1) (nxt s (vAt (allS s) k)) i) (allS s).length
def PtOk : Nat → PSt → Prop
  | 0, s => StOk s
  | d + 1, s => StOk s ∧ ∀ m ∈ allS s, MvOk s.2.2 m ∧ PtOk d (nxt s m)
def PtC (z : Nat × Nat) (d : Nat) : Prop := ∀ (s : PSt) (n : Nat → Int), PtOk d s → (∀ i, 0 ≤ n i ∧ n i + 220 ^ d ≤ 1000000000000000) → FnM (Tz z) 21 [.pointer (some ⟨100, 0, none⟩), .int .i64 d, .pointer (some ⟨102, 0, none⟩)] [.cells (psL 101 nilS s.2.1) 82, .cells (boardL s.2.2) 110, .cells (ints .i64 8 n) 28] (fun _ : Unit => True) (fun _ => .tuple #[]) (fun _ => [.any, .any, .cells (ints .i64 8 fun i => n i + ptN d s i) 28])
end Go.Tb
end
section
namespace Go.Tb
open Go Go.Proofs
variable {z : Nat × Nat}
set_option maxRecDepth 20000
def nFp (f : Nat → Bool) (n : Nat → Int) (k : Nat) : Nat → Int := fun i => n i + if i < k ∧ f i = true then 1 else 0
def stX (l : List UInt8) (D : Pd) (B : Brd) (M : Mv) : Int := stI (crUp l B M) (updD l D M B) (updB B M)
end Go.Tb
end
section
namespace Go.Tb
open Go Go.Proofs
set_option maxRecDepth 20000
theorem part_i {P : Program} (w : World) {e : TypeId} {k : IntKind} (he : P.underlying e = some (.int k)) {l : List Value} {off : Nat} {v : Value} (hx : l[off]? = some v) : (part e l.toArray off).run P w = .ok v w :=
  run_part_plain w (by simp [Program.plainKey, he]) (by simpa using hx)
theorem e_38 (a b c a' b' c' : Int) : binV Tryz.prog .eql 38 (.agg [.int .i64 a, .int .i64 b, .int .i64 c].toArray) (.agg [.int .i64 a', .int .i64 b', .int .i64 c'].toArray) = some (.bool (a == a' && (b == b' && c == c'))) := by
  have hf : (Tryz.prog.fieldsOf 38).toList = [(Tryz.prog.fieldsOf 38)[0]!, (Tryz.prog.fieldsOf 38)[1]!, (Tryz.prog.fieldsOf 38)[2]!] := by kernel_rfl
  have ht : Tryz.prog.underlying 38 = some (.struct (Tryz.prog.fieldsOf 38)) := by kernel_rfl
  have h : eqA Tryz.prog 38 (.agg [.int .i64 a, .int .i64 b, .int .i64 c].toArray) (.agg [.int .i64 a', .int .i64 b', .int .i64 c'].toArray) = some (a == a' && (b == b' && c == c')) := by
    refine eqA_of fun ρ w => ?_
    have e : ∀ x y v : Int, ([.int .i64 x, .int .i64 y, .int .i64 v] : List Value).toArray.map (rl ρ) = ([.int .i64 x, .int .i64 y, .int .i64 v] : List Value).toArray := fun x y v => by simp
    rw [rl_agg, rl_agg, e, e]
    refine ⟨?_, fun op p q => run_eqGuard_agg w op 38 p q _ _ (by kernel_rfl)⟩
    have := run_equalIn_agg (P := Tryz.prog) w 9999 38 [.int .i64 a, .int .i64 b, .int .i64 c].toArray [.int .i64 a', .int .i64 b', .int .i64 c'].toArray ht (by kernel_rfl)
    show (Op.equalIn (9999 + 1) 38 _ _).run Tryz.prog w = _
    rw [this, hf]
    have n0 : (Tryz.prog.fieldsOf 38)[0]!.name ≠ "_" := by decide +kernel
    have n1 : (Tryz.prog.fieldsOf 38)[1]!.name ≠ "_" := by decide +kernel
    have n2 : (Tryz.prog.fieldsOf 38)[2]!.name ≠ "_" := by decide +kernel
    have t0 : (Tryz.prog.fieldsOf 38)[0]!.type = 3 ∧ (Tryz.prog.fieldsOf 38)[0]!.offset = 0 := ⟨by kernel_rfl, by kernel_rfl⟩
    have t1 : (Tryz.prog.fieldsOf 38)[1]!.type = 3 ∧ (Tryz.prog.fieldsOf 38)[1]!.offset = 1 := ⟨by kernel_rfl, by kernel_rfl⟩
    have t2 : (Tryz.prog.fieldsOf 38)[2]!.type = 3 ∧ (Tryz.prog.fieldsOf 38)[2]!.offset = 2 := ⟨by kernel_rfl, by kernel_rfl⟩
    have pp : ∀ (x y v : Int) (o : Nat) (u : Value), ([.int .i64 x, .int .i64 y, .int .i64 v] : List Value)[o]? = some u → (part 3 ([.int .i64 x, .int .i64 y, .int .i64 v] : List Value).toArray o).run Tryz.prog w = .ok u w := fun x y v o u h => part_i w Tryz.underlying3 h
    have q := fun x y : Int => run_equalIn_int (P := Tryz.prog) w 9998 3 .i64 .i64 x y Tryz.underlying3
    simp only [Op.eqFields, n0, n1, n2, t0.1, t0.2, t1.1, t1.2, t2.1, t2.2, ne_eq, not_false_eq_true, if_true, Sem.run_bind, pp _ _ _ 0 _ rfl, pp _ _ _ 1 _ rfl, pp _ _ _ 2 _ rfl, q, Result.andThen_ok]
    generalize (a == a') = x
    cases x
    · simp
    · simp only [Bool.not_true, Bool.false_eq_true, if_false, Sem.run_bind, pp _ _ _ 1 _ rfl, q, Result.andThen_ok]
      generalize (b == b') = x
      cases x
      · simp
      · simp only [Bool.not_true, Bool.false_eq_true, if_false, Sem.run_bind, pp _ _ _ 2 _ rfl, q, Result.andThen_ok]
        generalize (c == c') = x
        cases x <;> simp
  show (eqA Tryz.prog 38 _ _).map Value.bool = _
  rw [h]; rfl
end Go.Tb
end
section
namespace Go.Tb
open Go Go.Proofs
variable {z : Nat × Nat}
set_option maxRecDepth 20000
theorem arr3 {cap : Array Value} (h : cap.size = 3) : ∃ x y w, cap = #[x, y, w] := by
  obtain ⟨l⟩ := cap
  match l, h with
  | [x, y, w], _ => exact ⟨x, y, w, rfl⟩
theorem F22_ok (cap : Array Value) (w : World) (hc : cap.size = 3) : CallsD Tryz.prog 22 cap .returning w fun e u' w' => u' = .returning ∧ (∃ v, e = .returned v) ∧ w' = w := by
  obtain ⟨x, y, v, rfl⟩ := arr3 hc
  refine callsD_of_wpS Tryz.func22 rfl fun c₀ cs hu => ?_
  apply wpS_seq
  apply wpS_region
  simp [wpOpsS, go_sem, recoverD, hu, Tryz.ntmps22, Exit.thenS]
  refine wpS_cond (t := false) (by simp [Act.eval, Array.replicate]) ?_
  simp only [Bool.false_eq_true, if_false]
  refine wpS_of_wp (wp_skip ?_)
  cases c₀
  simp_all [bodyPostS, results, Tryz.results22]
end Go.Tb
end
section
namespace Go.Tb
open Go Go.Proofs
variable {z : Nat × Nat}
set_option maxRecDepth 20000
def lmS (s : PSt) (k : Nat) : List M3 := ((allS s).take k).map toM
def cnS (d : Nat) (s : PSt) (k : Nat) : List Int := ((allS s).take k).map fun M => pfN d (nxt s M)
theorem lmS_0 (s : PSt) : lmS s 0 = [] := rfl
theorem cnS_0 (d : Nat) (s : PSt) : cnS d s 0 = [] := rfl
theorem lmS_len {s : PSt} {k : Nat} (h : k ≤ (allS s).length) : (lmS s k).length = k := by simp [lmS]; omega
theorem cnS_len {d : Nat} {s : PSt} {k : Nat} (h : k ≤ (allS s).length) : (cnS d s k).length = k := by simp [cnS]; omega
theorem lmS_S {s : PSt} {k : Nat} (h : k < (allS s).length) : lmS s (k + 1) = lmS s k ++ [toM (vAt (allS s) k)] := by
  unfold lmS; rw [List.take_add_one, vAt_get h]; simp
theorem cnS_S {d : Nat} {s : PSt} {k : Nat} (h : k < (allS s).length) : cnS d s (k + 1) = cnS d s k ++ [pfN d (nxt s (vAt (allS s) k))] := by
  unfold cnS; rw [List.take_add_one, vAt_get h]; simp
abbrev DX := Option ((List Value × Nat) × (List Value × Nat))
def dvOk (n : Nat) (ml cl : List Value) : DX → Prop
  | none => n = 0
  | some x => slOk 3 n ml (some x.1) ∧ slOk 1 n cl (some x.2)
def dvV (n : Nat) : DX → Value
  | none => .tuple [.slice none 0 0, .slice none 0 0, .bool true].toArray
  | some x => .tuple [.slice (some ⟨100, 0, none⟩) n x.1.2, .slice (some ⟨101, 0, none⟩) n x.2.2, .bool true].toArray
def dvM (ml cl : List Value) : DX → List AO
  | none => []
  | some x => [.cells (ml ++ x.1.1) 38, .cells (cl ++ x.2.1) 3]
theorem slW {b n k : Nat} {h : Hold} {T : TypeId} (hb : b < n) : (AO.cells [slH b k h] T).wf n := fun v hv => by
  simp only [List.mem_singleton] at hv; subst hv
  exact wf_slH hb
theorem wr_s1 {a : Value} {T : TypeId} {L : List AO} {i : Nat} {p : Option Addr} {n m : Nat} : wrC (some (.cells [a] T)) L i 1 0 [.slice p n m] = some (L.set i (.cells [.slice p n m] T)) := (wrC_in (s := 1) rfl rfl (by simp)).trans rfl
theorem cellsL_slH (b k : Nat) (h : Hold) : cellsL (slH b k h) = [slH b k h] := by cases h <;> rfl
theorem wr_sH {a : Value} {T : TypeId} {L : List AO} {i b k : Nat} {h : Hold} : wrC (some (.cells [a] T)) L i 1 0 [slH b k h] = some (L.set i (.cells [slH b k h] T)) := (wrC_in (s := 1) rfl (by cases h <;> rfl) (by simp)).trans rfl
theorem resOf_3 (a b d : Value) : resOf [a, b, d] = .tuple [a, b, d].toArray := rfl
theorem nilW {n : Nat} {T : TypeId} : (AO.cells [.slice none 0 0] T).wf n := fun v hv => by
  simp only [List.mem_singleton] at hv; subst hv; exact wf_nils
theorem booW {n : Nat} {b : Bool} {T : TypeId} : (AO.cells [.bool b] T).wf n := fun v hv => by
  simp only [List.mem_singleton] at hv; subst hv; exact wf_bool
theorem slcW {n b k m : Nat} {T : TypeId} (h : b < n) : (AO.cells [.slice (some ⟨b, 0, none⟩) k m] T).wf n := fun v hv => by
  simp only [List.mem_singleton] at hv; subst hv; exact wf_sl h
theorem rl_slHg (σ : Nat → Nat) (b k : Nat) (h : Hold) : rl σ (slH b k h) = slH (σ b) k h := by cases h <;> simp [slH]
attribute [local irreducible] brdC posC crT pfN stdL csL allL updB crUp updD nxt lmS cnS in
set_option maxHeartbeats 8000000 in
theorem Divide_ok (c : Nat → Int) (d : Nat) (hd : d + 1 ≤ 5) (hc : PosIn c) (hp : PfOk (d + 1) (crT (c 65), posC c, brdC c)) : FnM (Tz z) 11 [posV c, .int .i64 ((d + 1 : Nat) : Int)] [] (dvOk (allL (crT (c 65)) (posC c) (brdC c)).length (msL (lmS (crT (c 65), posC c, brdC c) (allL (crT (c 65)) (posC c) (brdC c)).length)) (isL (cnS d (crT (c 65), posC c, brdC c) (allL (crT (c 65)) (posC c) (brdC c)).length))) (dvV (allL (crT (c 65)) (posC c) (brdC c)).length) (dvM (msL (lmS (crT (c 65), posC c, brdC c) (allL (crT (c 65)) (posC c) (brdC c)).length)) (isL (cnS d (crT (c 65), posC c, brdC c) (allL (crT (c 65)) (posC c) (brdC c)).length))) := by
  obtain ⟨hs, hm⟩ := hp
  have hlen : (allL (crT (c 65)) (posC c) (brdC c)).length ≤ 220 := allS_len hs
  have hpf := perft_ok (z := z) d (by omega)
  unfold PfC at hpf
  refine ⟨?_, by simp, ?_, CallM.shiftX ?_⟩
  · intro u hu
    simp only [List.mem_cons, List.not_mem_nil, or_false] at hu
    rcases hu with rfl | rfl
    · exact (posV_pl c).wf _
    · exact wf_int
  · intro x _ o ho
    rcases x with _ | ⟨⟨t1, a1⟩, t2, a2⟩
    · simp [dvM] at ho
    · simp [dvM] at ho; rcases ho with rfl | rfl <;> rfl
  refine startD (N := 41) (g := 22) (fn := Tryz.f11) [0, 1, 2, 4, 5, 6, 7, 9, 16, 20, 21, 22, 23] 3 [(0, posV c), (1, .int .i64 ((d + 1 : Nat) : Int)), (2, .pointer (some ⟨100, 0, none⟩)), (4, .pointer (some ⟨101, 0, none⟩)), (5, .pointer (some ⟨102, 0, none⟩)), (6, .pointer (some ⟨103, 0, none⟩))] [.cells (ints .i64 69 c) 24, .cells [.slice none 0 0] 32, .cells [.slice none 0 0] 33, .cells [.bool false] 4] Tryz.func11 rfl rfl rfl (by kernel_rfl) (by kernel_rfl) (by simp) ?_ ?_ (by kernel_rfl) (fun cap w h => F22_ok cap w h) (fun D => ?_)
  · unfold posV
    repeat' (first | with_reducible refine seq_k fun K hK => ?_ | (with_reducible refine hK _ _ ?_; clear hK) | ((with_reducible first | refine gd_dec ?_ ?_ | refine gd_ndec ?_ ?_ | refine qC_dec ?_ ?_ | refine qC_ndec ?_ ?_ | refine piC_dec ?_ ?_ | refine piC_ndec ?_ ?_ | refine zC_dec ?_ ?_ | refine zC_ndec ?_ ?_ | refine zD_dec ?_ ?_ | refine yC_dec ?_ ?_ | refine yC_ndec ?_ ?_ | refine if_dec ?_ ?_ | refine if_ndec ?_ ?_) <;> intro hh) | simp -implicitDefEqProofs (disch := first | omega | assumption) only [go_sem, ↓reduceIte, Nat.reduceEqDiff, Int.reduceEq, Nat.reduceAdd, Nat.reduceSub, Nat.reduceMul, Nat.mul_one, Nat.one_mul, List.length_nil, List.length_cons, List.nil_append, List.cons_append, List.length_append, List.set_cons_zero, List.set_cons_succ, Nat.zero_add, Nat.sub_zero, Option.isNone_none, Option.isNone_some, Int.toNat_natCast, Nat.add_sub_cancel_left, Bool.not_true, Bool.not_false, BitVec.reduceOfInt, Int.reduceToNat] | ((with_reducible first | refine gd_bool ?_ ?_ | refine if_bool ?_ ?_ | refine qC_bool ?_ ?_ | refine piC_bool ?_ ?_ | refine zC_bool ?_ ?_ | refine zD_bool ?_ ?_ | refine yC_bool ?_ ?_) <;> intro hh) | clear hK)
    exact ⟨trivial, trivial, trivial⟩
  · intro a w h1 h2
    apply wp_region
    have hmf : ∀ (fn : Fn) (first cap : Array Value) (w : World), (Instr.makeFunc fn first cap).run Tryz.prog w = .ok (.func fn first cap) w := fun _ _ _ _ => rfl
    simp [Go.wpOps, go_sem, hmf, h1, h2]
    refine .inl (.inl fun t v hv => ?_)
    rw [Array.getElem?_setIfInBounds_ne]
    rintro rfl
    simp at hv
  · have h1 : ¬ ((d + 1 : Nat) : Int) < 1 := by omega
    have h2 : ¬ (5 : Int) < ((d + 1 : Nat) : Int) := by omega
    unfold posV
    repeat' (first | ((with_reducible refine call_fr (position_ok c hc.bd hc.turn hc.cast hc.ep hc.half hc.full) [] ?_ ?_ ?_ ?_); (· kernel_rfl); (· exact trivial); (· kernel_rfl); intro xx hx; simp -implicitDefEqProofs only [fixL_eq, setAll_cons, setAll_nil, setAll_nil2, List.map_cons, List.map_nil, rn_cells, rn_ro, rn_any, rn_obj, boardL_map, mvL_map, psL_map, map_ints, List.set_cons_zero, List.set_cons_succ, List.length_cons, List.length_nil, List.drop_succ_cons, List.drop_zero, List.drop_nil, List.append_nil, List.nil_append, List.cons_append, rl_tuple, rl_int, rl_bool, rl_string, rl_ptr, rl_ptr0, rl_slice, rl_slice0, rl_agg, List.map_toArray, Array.map_empty, List.length_append, Nat.zero_add, Nat.reduceAdd, sig, Nat.reduceLT, Nat.reduceSub, ↓reduceIte, List.getElem?_cons_zero, List.getElem?_cons_succ, List.getElem?_nil, Nat.reduceAdd, Nat.add_zero, Nat.sub_self]) | ((with_reducible refine call_fr (valid_okM _ _ _ hs.len hs.cr hs.std hs.ep hs.turn hs.wk hs.bk) [9, 8] ?_ ?_ ?_ ?_); (· kernel_rfl); (· exact ⟨by kernel_rfl, by kernel_rfl, trivial⟩); (· kernel_rfl); rintro ⟨⟨tc, cc⟩, h⟩ ⟨hx1, hx2⟩; (have hpc := pl_app (vsL_pl (allL (crT (c 65)) (posC c) (brdC c))) hx1.2.2.2); (have hpm := fun σ : Nat → Nat => pl_map hpc σ); (rcases h with _ | ⟨t2, c2⟩); (have hz := hx2.1); simp only [vxM, slM, slH_none]; simp -implicitDefEqProofs only [fixL_eq, setAll_cons, setAll_nil, setAll_nil2, List.map_cons, List.map_nil, rn_cells, rn_ro, rn_any, rn_obj, boardL_map, mvL_map, psL_map, map_ints, List.set_cons_zero, List.set_cons_succ, List.length_cons, List.length_nil, List.drop_succ_cons, List.drop_zero, List.drop_nil, List.append_nil, List.nil_append, List.cons_append, rl_tuple, rl_int, rl_bool, rl_string, rl_ptr, rl_ptr0, rl_slice, rl_slice0, rl_agg, List.map_toArray, Array.map_empty, List.length_append, Nat.zero_add, Nat.reduceAdd, sig, Nat.reduceLT, Nat.reduceSub, ↓reduceIte, List.getElem?_cons_zero, List.getElem?_cons_succ, List.getElem?_nil, Nat.reduceAdd, Nat.add_zero, Nat.sub_self]; simp only [hpm]; rotate_left; (have hp2 := pl_app (vsL_pl (allL (crT (c 65)) (posC c) (brdC c))) hx2.2.2.2); (have hpn := fun σ : Nat → Nat => pl_map hp2 σ); simp only [vxM, slM, slH_some]; simp -implicitDefEqProofs only [fixL_eq, setAll_cons, setAll_nil, setAll_nil2, List.map_cons, List.map_nil, rn_cells, rn_ro, rn_any, rn_obj, boardL_map, mvL_map, psL_map, map_ints, List.set_cons_zero, List.set_cons_succ, List.length_cons, List.length_nil, List.drop_succ_cons, List.drop_zero, List.drop_nil, List.append_nil, List.nil_append, List.cons_append, rl_tuple, rl_int, rl_bool, rl_string, rl_ptr, rl_ptr0, rl_slice, rl_slice0, rl_agg, List.map_toArray, Array.map_empty, List.length_append, Nat.zero_add, Nat.reduceAdd, sig, Nat.reduceLT, Nat.reduceSub, ↓reduceIte, List.getElem?_cons_zero, List.getElem?_cons_succ, List.getElem?_nil, Nat.reduceAdd, Nat.add_zero, Nat.sub_self]; simp only [hpm, hpn]; rotate_left) | ((with_reducible refine loop (c := Code.seq (Code.region 6 _ _) _) (V := [0, 1, 2, 4, 5, 6, 7, 9, 16, 20, 21, 22, 23]) (fun y : Nat × Hold × Hold => ([(1, .int .i64 ((d + 1 : Nat) : Int)), (4, .pointer (some ⟨100, 0, none⟩)), (5, .pointer (some ⟨101, 0, none⟩)), (6, .pointer (some ⟨102, 0, none⟩)), (7, .pointer (some ⟨103, 0, none⟩)), (20, .slice (some ⟨106, 0, none⟩) (allL (crT (c 65)) (posC c) (brdC c)).length c2), (21, .int .i64 (allL (crT (c 65)) (posC c) (brdC c)).length), (22, .int .i64 y.1)], [.cells [slH 107 y.1 y.2.1] 32, .cells [slH 108 y.1 y.2.2] 33, .cells [.bool false] 4, .cells (psL 104 (.slice (some ⟨105, 0, none⟩) (allL (crT (c 65)) (posC c) (brdC c)).length cc) (posC c)) 82, .cells (boardL (brdC c)) 110, .cells (vsL (allL (crT (c 65)) (posC c) (brdC c)) ++ tc) 60, .cells (vsL (allL (crT (c 65)) (posC c) (brdC c)) ++ t2) 60, slB 38 (msL (lmS (crT (c 65), posC c, brdC c) y.1)) y.2.1, slB 3 (isL (cnS d (crT (c 65), posC c, brdC c) y.1)) y.2.2])) (fun y => y.1 ≤ (allL (crT (c 65)) (posC c) (brdC c)).length ∧ slOk 3 y.1 (msL (lmS (crT (c 65), posC c, brdC c) y.1)) y.2.1 ∧ slOk 1 y.1 (isL (cnS d (crT (c 65), posC c, brdC c) y.1)) y.2.2 ∧ (y.2.1.isNone = y.2.2.isNone)) (fun y => (allL (crT (c 65)) (posC c) (brdC c)).length - y.1) (0, none, none) (by kernel_rfl) ?_ ?_ (fun y hk => ?_)); rotate_left 2; obtain ⟨k, g1, g2⟩ := y; simp only at hk; obtain ⟨hk, o1, o2, o3⟩ := hk; have hmk := fun hlt : k < (allL (crT (c 65)) (posC c) (brdC c)).length => hm _ (vAt_mem (l := (allL (crT (c 65)) (posC c) (brdC c))) hlt); rotate_right 2) | with_reducible refine loop (c := Code.seq (Code.region 6 _ _) _) (V := [0, 1, 2, 4, 5, 6, 7, 9, 16, 20, 21, 22, 23]) (fun k : Nat => ([(4, .pointer (some ⟨101, 0, none⟩)), (5, .pointer (some ⟨102, 0, none⟩)), (6, .pointer (some ⟨103, 0, none⟩)), (21, .int .i64 0), (22, .int .i64 0)], [.cells (ints .i64 69 c) 24, .cells [.slice none 0 0] 32, .cells [.slice none 0 0] 33, .cells [.bool false] 4])) (fun _ => True) (fun k => 0) 0 (by kernel_rfl) trivial ?_ (fun k hk => ?_) | with_reducible refine seq_y (a := Code.region 8 _ _) (fun x : Hold => ([(1, .int .i64 ((d + 1 : Nat) : Int)), (4, .pointer (some ⟨100, 0, none⟩)), (5, .pointer (some ⟨101, 0, none⟩)), (6, .pointer (some ⟨102, 0, none⟩)), (7, .pointer (some ⟨103, 0, none⟩)), (20, .slice (some ⟨106, 0, none⟩) (allL (crT (c 65)) (posC c) (brdC c)).length c2), (21, .int .i64 (allL (crT (c 65)) (posC c) (brdC c)).length), (22, .int .i64 k), (9, .pointer (some ⟨109, 0, none⟩))], [.cells [slH 107 (k + 1) x] 32, .cells [slH 108 k g2] 33, .cells [.bool false] 4, .cells (psL 104 (.slice (some ⟨105, 0, none⟩) (allL (crT (c 65)) (posC c) (brdC c)).length cc) (posC c)) 82, .cells (boardL (brdC c)) 110, .cells (vsL (allL (crT (c 65)) (posC c) (brdC c)) ++ tc) 60, .cells (vsL (allL (crT (c 65)) (posC c) (brdC c)) ++ t2) 60, slB 38 (msL (lmS (crT (c 65), posC c, brdC c) (k + 1))) x, slB 3 (isL (cnS d (crT (c 65), posC c, brdC c) k)) g2, .cells (mvL (vAt (allL (crT (c 65)) (posC c) (brdC c)) k)) 60])) (fun x => slOk 3 (k + 1) (msL (lmS (crT (c 65), posC c, brdC c) (k + 1))) x ∧ x.isNone = false) (fun x hx1 => ?_) (fun K hJ => ?_) | (with_reducible refine hJ _ _ ?_; clear hJ) | (with_reducible first | refine draw3 (id := 8) [.r, .r, .e [0], .e [], .e []] (by kernel_rfl) (by kernel_rfl) ?_ | refine draw2 (id := 9) [(0, .r), (1, .q), (3, .q), (4, .q), (2, .e [0]), (5, .e [0]), (6, .e [0]), (7, .e []), (8, .e [])] (by kernel_rfl) (by kernel_rfl) ?_ | refine draw3 (id := 11) [.r, .r, .e [1], .e [], .e []] (by kernel_rfl) (by kernel_rfl) ?_ | apply pz_e) | ((with_reducible apply pi_e); (· rfl); (· rfl)) | ((with_reducible refine call_ri (f := 24) ?_ ?_ ?_ ?_ ?_ ?_ ?_); rotate_left 3; (· first | omega | decide); (· first | rfl | simp; done); (· refine plain_ok _ (hmk (by omega)).1.s1 (hmk (by omega)).1.s2 (by have := (hmk (by omega)).1.promo; omega) <;> omega)) | ((with_reducible refine qG_ri (f := 24) ?_ ?_ ?_ ?_ ?_ ?_ ?_); rotate_left 3; (· first | omega | decide); (· first | rfl | simp; done); (· refine plain_ok _ (hmk (by omega)).1.s1 (hmk (by omega)).1.s2 (by have := (hmk (by omega)).1.promo; omega) <;> omega)) | ((with_reducible refine zG_ri (f := 24) ?_ ?_ ?_ ?_ ?_ ?_ ?_); rotate_left 3; (· first | omega | decide); (· first | rfl | simp; done); (· refine plain_ok _ (hmk (by omega)).1.s1 (hmk (by omega)).1.s2 (by have := (hmk (by omega)).1.promo; omega) <;> omega)) | ((with_reducible refine zE_app ?_); refine app_hold (X := Tz z) (i := 7) (e := 38) (sz := 3) (b := 24) (m := 1) (h := g1) (con := msL (lmS (crT (c 65), posC c, brdC c) k)) (n := k) (zc := [.int .i64 0, .int .i64 0, .int .i64 0]) (news := mB (toM (vAt (allL (crT (c 65)) (posC c) (brdC c)) k))) (by kernel_rfl) (by kernel_rfl) rfl (by simp [Pl.int]) (src_own (j := 10) rfl (by kernel_rfl) rfl) rfl rfl (by decide) rfl o1 (by omega) (by omega) (fun tl cap hcap => ⟨⟨trivial, ?_⟩, ⟨trivial, ?_⟩⟩)) | ((with_reducible refine piE_app ?_); refine app_hold (X := Tz z) (i := 8) (e := 3) (sz := 1) (b := 8) (m := 1) (h := g2) (con := isL (cnS d (crT (c 65), posC c, brdC c) k)) (n := k) (zc := [.int .i64 0]) (news := [.int .i64 (pfN d (nxt (crT (c 65), posC c, brdC c) (vAt (allL (crT (c 65)) (posC c) (brdC c)) k)))]) (by kernel_rfl) (by kernel_rfl) rfl (by simp [Pl.int]) (src_own (j := 12) rfl (by kernel_rfl) rfl) rfl rfl (by decide) rfl o2 (by omega) (by omega) (fun tl cap hcap => ⟨⟨trivial, ?_⟩, ⟨trivial, ?_⟩⟩)) | ((with_reducible refine piE_fr (Update_ok (posC c) (vAt (allL (crT (c 65)) (posC c) (brdC c)) k) (brdC c) (allL (crT (c 65)) (posC c) (brdC c)).length cc (vsL (allL (crT (c 65)) (posC c) (brdC c)) ++ tc) hpc (crT (c 65)) hs.len hs.cr (hmk (by omega)).1.s1 (hmk (by omega)).1.s2 (hmk (by omega)).1.promo hs.half hs.mc) [3, 9, 4, 5] ?_ ?_ ?_ ?_); (· kernel_rfl); (· exact ⟨by kernel_rfl, by kernel_rfl, by kernel_rfl, by rw [plK hpc]; rfl, trivial⟩); (· kernel_rfl); intro xx hx; simp only [pmbL]; simp -implicitDefEqProofs only [fixL_eq, setAll_cons, setAll_nil, setAll_nil2, List.map_cons, List.map_nil, rn_cells, rn_ro, rn_any, rn_obj, boardL_map, mvL_map, psL_map, map_ints, List.set_cons_zero, List.set_cons_succ, List.length_cons, List.length_nil, List.drop_succ_cons, List.drop_zero, List.drop_nil, List.append_nil, List.nil_append, List.cons_append, rl_tuple, rl_int, rl_bool, rl_string, rl_ptr, rl_ptr0, rl_slice, rl_slice0, rl_agg, List.map_toArray, Array.map_empty, List.length_append, Nat.zero_add, Nat.reduceAdd, sig, Nat.reduceLT, Nat.reduceSub, ↓reduceIte, List.getElem?_cons_zero, List.getElem?_cons_succ, List.getElem?_nil, Nat.reduceAdd, Nat.add_zero, Nat.sub_self]; simp only [hpm, hpn]) | ((with_reducible refine piE_fr (hpf (nxt (crT (c 65), posC c, brdC c) (vAt (allL (crT (c 65)) (posC c) (brdC c)) k)) (hmk (by omega)).2) [11, 10] ?_ ?_ ?_ ?_); (· kernel_rfl); (· exact ⟨by kernel_rfl, by kernel_rfl, trivial⟩); (· kernel_rfl); intro xx hx; simp -implicitDefEqProofs only [fixL_eq, setAll_cons, setAll_nil, setAll_nil2, List.map_cons, List.map_nil, rn_cells, rn_ro, rn_any, rn_obj, boardL_map, mvL_map, psL_map, map_ints, List.set_cons_zero, List.set_cons_succ, List.length_cons, List.length_nil, List.drop_succ_cons, List.drop_zero, List.drop_nil, List.append_nil, List.nil_append, List.cons_append, rl_tuple, rl_int, rl_bool, rl_string, rl_ptr, rl_ptr0, rl_slice, rl_slice0, rl_agg, List.map_toArray, Array.map_empty, List.length_append, Nat.zero_add, Nat.reduceAdd, sig, Nat.reduceLT, Nat.reduceSub, ↓reduceIte, List.getElem?_cons_zero, List.getElem?_cons_succ, List.getElem?_nil, Nat.reduceAdd, Nat.add_zero, Nat.sub_self]) | ((with_reducible refine And.intro ?_ ?_); (· (simp -implicitDefEqProofs (disch := first | omega | assumption) only [chk_nil, chk_cons, pend_nil, pend_cons, obl_q, onQ_v, and_true, sub_ints, go_sem, ↓reduceIte, Nat.reduceEqDiff, Int.reduceEq, Nat.reduceAdd, Nat.reduceSub, List.length_nil, List.length_cons, List.nil_append, List.cons_append, Nat.zero_add, Nat.sub_zero]; done))) | with_reducible refine seq_k fun K hK => ?_ | (with_reducible refine hK _ _ ?_; clear hK) | ((with_reducible first | refine gd_dec ?_ ?_ | refine gd_ndec ?_ ?_ | refine qC_dec ?_ ?_ | refine qC_ndec ?_ ?_ | refine piC_dec ?_ ?_ | refine piC_ndec ?_ ?_ | refine zC_dec ?_ ?_ | refine zC_ndec ?_ ?_ | refine zD_dec ?_ ?_ | refine yC_dec ?_ ?_ | refine yC_ndec ?_ ?_ | refine if_dec ?_ ?_ | refine if_ndec ?_ ?_) <;> intro hh) | simp -implicitDefEqProofs (disch := first | omega | assumption) only [go_sem, ↓reduceIte, Nat.reduceEqDiff, Int.reduceEq, Nat.reduceAdd, Nat.reduceSub, Nat.reduceMul, Nat.mul_one, Nat.one_mul, List.length_nil, List.length_cons, List.nil_append, List.cons_append, List.length_append, List.set_cons_zero, List.set_cons_succ, Nat.zero_add, Nat.sub_zero, Option.isNone_none, Option.isNone_some, Int.toNat_natCast, Nat.add_sub_cancel_left, Bool.not_true, Bool.not_false, BitVec.reduceOfInt, Int.reduceToNat, onGd_T, onGd_F, pickV_T, pickV_F, wr_o1, wr_o1b, decT, decF, vsL_map, pred1, vsL_subT, mv_lit, wr_mv0, wr_s1, sub_ints, zE_v1, piE_v1, flI_m, cellsL_slH, wr_sH, Tryz.results11, resOf_3] | ((with_reducible first | refine gd_bool ?_ ?_ | refine if_bool ?_ ?_ | refine qC_bool ?_ ?_ | refine piC_bool ?_ ?_ | refine zC_bool ?_ ?_ | refine zD_bool ?_ ?_ | refine yC_bool ?_ ?_) <;> intro hh) | clear hK)
    all_goals first
      | exact ⟨Nat.zero_le _, ⟨rfl, by rw [lmS_0]; rfl⟩, ⟨rfl, by rw [cnS_0]; rfl⟩, trivial⟩
      | (refine VS.cutT rfl (by simp) ⟨plW (ints_pl _ _ _), nilW, nilW, booW, trivial⟩ ?_
         simp [subW, Fr.get, wf_int, wf_pt]; done)
      | (refine ⟨none, hz, VS.cutT rfl (by simp [dvM]) trivial ?_⟩
         simp [subW, Fr.get, dvV, WF]; done)
      | (refine VS.ren0 [1, 2, 3, 9, 8, 10, 11, 0, 4] (by rfl) ⟨.inr ?_, .inr ?_, .inr ?_, .inr ?_, .inr ?_, .inr ?_, .inr ?_, .inl rfl, .inl rfl, trivial⟩ ⟨slW (by simp), slW (by simp), booW, psL_wf (by simp) (wf_sl (by simp)), plW (boardL_pl _), plW hpc, plW hp2, trivial, trivial, trivial⟩ ?_
         all_goals first | rfl | (simp [rnO, sig, slH, psL_map, boardL_map, hpm, hpn]; done) | (simp [mvG, Fr.get, sig, wf_int, wf_sl, wf_pt]; done))
      | (have e : isL (cnS d (crT (c 65), posC c, brdC c) (k + 1)) = isL (cnS d (crT (c 65), posC c, brdC c) k) ++ [.int .i64 (pfN d (nxt (crT (c 65), posC c, brdC c) (vAt (allL (crT (c 65)) (posC c) (brdC c)) k)))] := by rw [cnS_S (s := (crT (c 65), posC c, brdC c)) (show k < (allS (crT (c 65), posC c, brdC c)).length by show k < (allL (crT (c 65)) (posC c) (brdC c)).length; omega), isL_app]; rfl
         have q1 := fun σ => (slB_C (σ := σ) (n := 0) (T := 38) (msL_pl (lmS (crT (c 65), posC c, brdC c) (k + 1))) hx1.1).1
         have q2 := fun n => (slB_C (σ := fun i => i) (n := n) (T := 38) (msL_pl (lmS (crT (c 65), posC c, brdC c) (k + 1))) hx1.1).2
         have hcp := pl_app (pl_app (isL_plx (cnS d (crT (c 65), posC c, brdC c) k)) (show ∀ v ∈ [Value.int .i64 (pfN d (nxt (crT (c 65), posC c, brdC c) (vAt (allL (crT (c 65)) (posC c) (brdC c)) k)))], Pl v by simp [Pl.int])) hcap.2.2.2
         have hcm := fun σ : Nat → Nat => pl_map hcp σ
         refine ⟨(k + 1, x, some (tl, cap)), ⟨by simp only; omega, hx1.1, by rw [e]; exact hcap, hx1.2⟩, by simp only; omega, ?_⟩
         simp only [slH_some, slB_some, e]
         first
           | (refine VS.ren0 [0, 1, 2, 3, 4, 5, 6, 7, 8] (by rfl) ⟨.inr ?_, .inr ?_, .inr ?_, .inr ?_, .inr ?_, .inr ?_, .inr ?_, .inr ?_, .inr ?_, trivial⟩ ⟨slW (by simp), slcW (by simp), booW, psL_wf (by simp) (wf_sl (by simp)), plW (boardL_pl _), plW hpc, plW hp2, q2 _, plW hcp, trivial⟩ ?_
              all_goals first | rfl | exact congrArg some (q1 _).symm | (simp only [rnO, hcm]; rfl) | (simp only [rnO, hpm]; rfl) | (simp only [rnO, hpn]; rfl) | (simp [rnO, sig, rl_slHg, psL_map, boardL_map, mvL_map]; done) | (simp [mvG, Fr.get, sig, wf_int, wf_sl, wf_pt]; done))
           | (refine VS.ren0 [0, 1, 2, 3, 4, 5, 6, 7, 13] (by rfl) ⟨.inr ?_, .inr ?_, .inr ?_, .inr ?_, .inr ?_, .inr ?_, .inr ?_, .inr ?_, .inr ?_, trivial⟩ ⟨slW (by simp), slcW (by simp), booW, psL_wf (by simp) (wf_sl (by simp)), plW (boardL_pl _), plW hpc, plW hp2, q2 _, plW hcp, trivial⟩ ?_
              all_goals first | rfl | exact congrArg some (q1 _).symm | (simp only [rnO, hcm]; rfl) | (simp only [rnO, hpm]; rfl) | (simp only [rnO, hpn]; rfl) | (simp [rnO, sig, rl_slHg, psL_map, boardL_map, mvL_map]; done) | (simp [mvG, Fr.get, sig, wf_int, wf_sl, wf_pt]; done)))
      | (have e : msL (lmS (crT (c 65), posC c, brdC c) (k + 1)) = msL (lmS (crT (c 65), posC c, brdC c) k) ++ mB (toM (vAt (allL (crT (c 65)) (posC c) (brdC c)) k)) := by rw [lmS_S (s := (crT (c 65), posC c, brdC c)) (show k < (allS (crT (c 65), posC c, brdC c)).length by show k < (allL (crT (c 65)) (posC c) (brdC c)).length; omega), msL_app, msL_one]; rfl
         have q1 := fun σ => (slB_C (σ := σ) (n := 0) (T := 3) (isL_plx (cnS d (crT (c 65), posC c, brdC c) k)) o2).1
         have q2 := fun n => (slB_C (σ := fun i => i) (n := n) (T := 3) (isL_plx (cnS d (crT (c 65), posC c, brdC c) k)) o2).2
         have hcp := pl_app (pl_app (msL_pl (lmS (crT (c 65), posC c, brdC c) k)) (mB_pl (toM (vAt (allL (crT (c 65)) (posC c) (brdC c)) k)))) hcap.2.2.2
         have hcm := fun σ : Nat → Nat => pl_map hcp σ
         refine ⟨some (tl, cap), ⟨by rw [e]; exact hcap, rfl⟩, ?_⟩
         simp only [slH_some, slB_some, e]
         first
           | (refine VS.ren0 [0, 1, 2, 3, 4, 5, 6, 7, 8, 9] (by rfl) ⟨.inr ?_, .inr ?_, .inr ?_, .inr ?_, .inr ?_, .inr ?_, .inr ?_, .inr ?_, .inr ?_, .inr ?_, trivial⟩ ⟨slcW (by simp), slW (by simp), booW, psL_wf (by simp) (wf_sl (by simp)), plW (boardL_pl _), plW hpc, plW hp2, plW hcp, q2 _, plW (mvL_pl _), trivial⟩ ?_
              all_goals first | rfl | exact congrArg some (q1 _).symm | (simp only [rnO, hcm]; rfl) | (simp only [rnO, hpm]; rfl) | (simp only [rnO, hpn]; rfl) | (simp [rnO, sig, rl_slHg, psL_map, boardL_map, mvL_map]; done) | (simp [mvG, Fr.get, sig, wf_int, wf_sl, wf_pt]; done))
           | (refine VS.ren0 [0, 1, 2, 3, 4, 5, 6, 11, 8, 9] (by rfl) ⟨.inr ?_, .inr ?_, .inr ?_, .inr ?_, .inr ?_, .inr ?_, .inr ?_, .inr ?_, .inr ?_, .inr ?_, trivial⟩ ⟨slcW (by simp), slW (by simp), booW, psL_wf (by simp) (wf_sl (by simp)), plW (boardL_pl _), plW hpc, plW hp2, plW hcp, q2 _, plW (mvL_pl _), trivial⟩ ?_
              all_goals first | rfl | exact congrArg some (q1 _).symm | (simp only [rnO, hcm]; rfl) | (simp only [rnO, hpm]; rfl) | (simp only [rnO, hpn]; rfl) | (simp [rnO, sig, rl_slHg, psL_map, boardL_map, mvL_map]; done) | (simp [mvG, Fr.get, sig, wf_int, wf_sl, wf_pt]; done)))
      | (have hkk : k = (allL (crT (c 65)) (posC c) (brdC c)).length := by omega
         subst hkk
         rcases g1 with _ | ⟨tl1, c1⟩ <;> rcases g2 with _ | ⟨tl2, cp2⟩
         · refine ⟨none, o1.1, ?_⟩
           refine VS.cutT rfl (by simp [dvM]) trivial ?_
           simp [subW, Fr.get, dvV, WF, slH]; done
         · cases o3
         · cases o3
         · refine ⟨some ((tl1, c1), (tl2, cp2)), ⟨o1, o2⟩, ?_⟩
           have hp1 := pl_app (msL_pl (lmS (crT (c 65), posC c, brdC c) (allL (crT (c 65)) (posC c) (brdC c)).length)) o1.2.2.2
           have hp3 := pl_app (isL_plx (cnS d (crT (c 65), posC c, brdC c) (allL (crT (c 65)) (posC c) (brdC c)).length)) o2.2.2.2
           have hm1 := fun σ : Nat → Nat => pl_map hp1 σ
           have hm3 := fun σ : Nat → Nat => pl_map hp3 σ
           simp only [slH_some, slB_some, dvV, dvM]
           refine VS.ren0 [7, 8] (by rfl) ⟨.inr ?_, .inr ?_, trivial⟩ ⟨plW hp1, plW hp3, trivial⟩ ?_
           all_goals first | (simp [rnO, sig, hm1, hm3]; done) | (refine ⟨⟨by simp [Fr.get, sig], ?_⟩, trivial⟩; intro ρ ρ' hr; simp [hr 100 (by simp), hr 101 (by simp)]; done))
end Go.Tb
end
section
namespace Go.Tb
open Go Go.Proofs
variable {z : Nat × Nat}
set_option maxRecDepth 20000
theorem e_38m (m m' : M3) : binV Tryz.prog .eql 38 (.agg (mB m).toArray) (.agg (mB m').toArray) = some (.bool (decide (m = m'))) := by
  rw [show (Value.agg (mB m).toArray) = .agg [.int .i64 m.1, .int .i64 m.2.1, .int .i64 m.2.2].toArray from rfl, show (Value.agg (mB m').toArray) = .agg [.int .i64 m'.1, .int .i64 m'.2.1, .int .i64 m'.2.2].toArray from rfl, e_38]
  congr 2
  rw [Bool.eq_iff_iff, decide_eq_true_eq, Bool.and_eq_true, Bool.and_eq_true, beq_iff_eq, beq_iff_eq, beq_iff_eq]
  constructor
  · rintro ⟨a, b, e⟩; exact Prod.ext a (Prod.ext b e)
  · rintro rfl; exact ⟨rfl, rfl, rfl⟩
def foundB (l : List M3) (m : M3) : Nat → Bool
  | 0 => false
  | j + 1 => foundB l m j || decide (mAt l j = m)
theorem found_0 (l : List M3) (m : M3) : foundB l m 0 = false := rfl
theorem found_S (l : List M3) (m : M3) (j : Nat) : foundB l m (j + 1) = (foundB l m j || decide (mAt l j = m)) := rfl
theorem found_mem {l : List M3} {m : M3} {i : Nat} (h : mAt l i = m) : ∀ j : Nat, i < j → foundB l m j = true
  | 0, hj => by omega
  | j + 1, hj => by
    rw [found_S]
    rcases Nat.lt_or_ge i j with h1 | h1
    · rw [found_mem h j h1]; rfl
    · have : i = j := by omega
      subst this; rw [h]; simp
theorem found_all {l : List M3} {m : M3} (h : m ∈ l) : foundB l m l.length = true := by
  obtain ⟨i, hi, e⟩ := List.mem_iff_getElem.1 h
  refine found_mem (i := i) ?_ _ hi
  have := mAt_get hi
  rw [List.getElem?_eq_getElem hi, e] at this
  exact (Option.some.inj this).symm
structure DivF (z : Nat × Nat) (c : Nat → Int) (d : Nat) (lm : List M3) (cn : List Int) (S : Int) : Prop where
  hl : cn.length = lm.length
  hL : (legL c).length = lm.length
  nd : ∀ k i : Nat, k < i → i < lm.length → mAt lm k ≠ mAt lm i
  mem : ∀ i : Nat, i < lm.length → mAt lm i ∈ legL c
  bd : ∀ i : Nat, i < lm.length → mBd (mAt lm i)
  pf : ∀ i : Nat, i < lm.length → FnP (Tz z) 8 [posV (madeM c (mAt lm i)), .int .i64 d] (.tuple [.int .i64 (iAt cn i), .bool true].toArray)
  sum : sumK (iAt cn) lm.length = S
  sb : ∀ k : Nat, k ≤ lm.length → 0 ≤ sumK (iAt cn) k ∧ sumK (iAt cn) k ≤ 113379904000000
  cb : ∀ k : Nat, k < lm.length → 0 ≤ iAt cn k ∧ iAt cn k ≤ 113379904000000
  len : lm.length ≤ 220
  dv : FnM (Tz z) 11 [posV c, .int .i64 ((d + 1 : Nat) : Int)] [] (dvOk lm.length (msL lm) (isL cn)) (dvV lm.length) (dvM (msL lm) (isL cn))
set_option maxHeartbeats 4000000 in
theorem divide_n {c : Nat → Int} {n : Int} (h : ¬ AskC c n) : FnP (Tz z) 5 [posV c, .int .i64 n] (.bool true) := by
  refine ⟨by simp [posV_pl, Pl.int], Pl.bool, start [0, 1, 2, 4, 5, 6, 7, 8, 9, 10, 11, 12, 13, 14, 15, 16, 17, 19, 27, 52, 53, 54, 55, 56, 62, 70, 80, 81, 82, 83, 106] Tryz.func5 rfl (by decide) rfl (by kernel_rfl) (by simp [Tryz.f5]) ?_⟩
  simp only [Tryz.f5]
  unfold posV
  repeat' (first | (with_reducible first | refine call_p (pfTally_F (by assumption)) ?_ | refine qG_call (pfTally_F (by assumption)) ?_ | refine zG_call (pfTally_F (by assumption)) ?_ | refine yG_call (pfTally_F (by assumption)) ?_ | refine piG_call (pfTally_F (by assumption)) ?_ | refine seq_k fun K hK => ?_) | (with_reducible refine hK _ _ ?_; clear hK) | ((with_reducible first | refine gd_dec ?_ ?_ | refine gd_ndec ?_ ?_ | refine qC_dec ?_ ?_ | refine qC_ndec ?_ ?_ | refine piC_dec ?_ ?_ | refine piC_ndec ?_ ?_ | refine zC_dec ?_ ?_ | refine zC_ndec ?_ ?_ | refine zD_dec ?_ ?_ | refine yC_dec ?_ ?_ | refine yC_ndec ?_ ?_ | refine if_dec ?_ ?_ | refine if_ndec ?_ ?_) <;> intro hh) | simp -implicitDefEqProofs (disch := first | omega | assumption) only [go_sem, ↓reduceIte, Nat.reduceEqDiff, Int.reduceEq, Nat.reduceAdd, Nat.reduceSub, Nat.reduceMul, Nat.mul_one, Nat.one_mul, List.length_nil, List.length_cons, List.nil_append, List.cons_append, List.length_append, List.set_cons_zero, List.set_cons_succ, Nat.zero_add, Nat.sub_zero, Option.isNone_none, Option.isNone_some, Int.toNat_natCast, Nat.add_sub_cancel_left, Bool.not_true, Bool.not_false, BitVec.reduceOfInt, Int.reduceToNat, onGd_T, onGd_F, pickV_T, pickV_F, decT, decF, zero8, sub_ints, wr_i8, wr_1i] | ((with_reducible first | refine gd_bool ?_ ?_ | refine if_bool ?_ ?_ | refine qC_bool ?_ ?_ | refine piC_bool ?_ ?_ | refine zC_bool ?_ ?_ | refine zD_bool ?_ ?_ | refine yC_bool ?_ ?_) <;> intro hh) | clear hK)
  all_goals first
    | rfl
set_option maxHeartbeats 4000000 in
theorem divide_f {c : Nat → Int} {d : Nat} (hr : RightC c) (hd : d + 1 ≤ 5) (hp : PosD (d + 1) c) (hb : (tallyF (d + 1) c 6000).2.1 = false) : FnP (Tz z) 5 [posV c, .int .i64 ((d + 1 : Nat) : Int)] (.bool true) := by
  have ht := pfTally_T (z := z) hr hd hp
  rw [hb] at ht
  refine ⟨by simp [posV_pl, Pl.int], Pl.bool, start [0, 1, 2, 4, 5, 6, 7, 8, 9, 10, 11, 12, 13, 14, 15, 16, 17, 19, 27, 52, 53, 54, 55, 56, 62, 70, 80, 81, 82, 83, 106] Tryz.func5 rfl (by decide) rfl (by kernel_rfl) (by simp [Tryz.f5]) ?_⟩
  simp only [Tryz.f5]
  unfold posV
  repeat' (first | (with_reducible first | refine call_p (ht) ?_ | refine qG_call (ht) ?_ | refine zG_call (ht) ?_ | refine yG_call (ht) ?_ | refine piG_call (ht) ?_ | refine seq_k fun K hK => ?_) | (with_reducible refine hK _ _ ?_; clear hK) | ((with_reducible first | refine gd_dec ?_ ?_ | refine gd_ndec ?_ ?_ | refine qC_dec ?_ ?_ | refine qC_ndec ?_ ?_ | refine piC_dec ?_ ?_ | refine piC_ndec ?_ ?_ | refine zC_dec ?_ ?_ | refine zC_ndec ?_ ?_ | refine zD_dec ?_ ?_ | refine yC_dec ?_ ?_ | refine yC_ndec ?_ ?_ | refine if_dec ?_ ?_ | refine if_ndec ?_ ?_) <;> intro hh) | simp -implicitDefEqProofs (disch := first | omega | assumption) only [go_sem, ↓reduceIte, Nat.reduceEqDiff, Int.reduceEq, Nat.reduceAdd, Nat.reduceSub, Nat.reduceMul, Nat.mul_one, Nat.one_mul, List.length_nil, List.length_cons, List.nil_append, List.cons_append, List.length_append, List.set_cons_zero, List.set_cons_succ, Nat.zero_add, Nat.sub_zero, Option.isNone_none, Option.isNone_some, Int.toNat_natCast, Nat.add_sub_cancel_left, Bool.not_true, Bool.not_false, BitVec.reduceOfInt, Int.reduceToNat, onGd_T, onGd_F, pickV_T, pickV_F, decT, decF, zero8, sub_ints, wr_i8, wr_1i] | ((with_reducible first | refine gd_bool ?_ ?_ | refine if_bool ?_ ?_ | refine qC_bool ?_ ?_ | refine piC_bool ?_ ?_ | refine zC_bool ?_ ?_ | refine zD_bool ?_ ?_ | refine yC_bool ?_ ?_) <;> intro hh) | clear hK)
  all_goals first
    | rfl
theorem fixDV {n : Nat} {L : List AO} {ml cl t1 t2 : List Value} {a b : Nat} (h1 : ∀ v ∈ ml ++ t1, Pl v) (h2 : ∀ v ∈ cl ++ t2, Pl v) : fixL (sig [] n) L [] (dvM ml cl (some ((t1, a), (t2, b)))) = L ++ [.cells (ml ++ t1) 38, .cells (cl ++ t2) 3] := by
  show setAll L [] _ ++ [AO.cells ((ml ++ t1).map (rl (sig [] n))) 38, AO.cells ((cl ++ t2).map (rl (sig [] n))) 3] = _
  rw [pl_map h1, pl_map h2]; rfl
theorem fixDV0 {n : Nat} {L : List AO} {ml cl : List Value} : fixL (sig [] n) L [] (dvM ml cl none) = L := by
  show setAll L [] _ ++ [] = _
  rw [List.append_nil]; rfl
theorem rlDV0 {n k : Nat} : rl (sig [] n) (dvV k none) = .tuple [.slice none 0 0, .slice none 0 0, .bool true].toArray := by simp [dvV]
theorem rlDV {n k : Nat} {x : (List Value × Nat) × (List Value × Nat)} : rl (sig [] n) (dvV k (some x)) = .tuple [.slice (some ⟨100 + n, 0, none⟩) k x.1.2, .slice (some ⟨101 + n, 0, none⟩) k x.2.2, .bool true].toArray := by
  simp [dvV, sig]
attribute [local irreducible] legL madeM mAt iAt sumK foundB in
set_option maxHeartbeats 8000000 in
theorem divide_t {c : Nat → Int} {d : Nat} {lm : List M3} {cn : List Int} {T : Nat → Int} (hd : d + 1 ≤ 5) (hpos : PosOk c) (ht : FnP (Tz z) 9 [posV c, .int .i64 ((d + 1 : Nat) : Int)] (.tuple [.agg (ints .i64 8 T).toArray, .bool true].toArray)) (hf : DivF z c d lm cn (T 0)) : FnP (Tz z) 5 [posV c, .int .i64 ((d + 1 : Nat) : Int)] (.bool true) := by
  have hL := hf.hL
  have hln := hf.len
  refine ⟨by simp [posV_pl, Pl.int], Pl.bool, start [0, 1, 2, 4, 5, 6, 7, 8, 9, 10, 11, 12, 13, 14, 15, 16, 17, 19, 27, 52, 53, 54, 55, 56, 62, 70, 80, 81, 82, 83, 106] Tryz.func5 rfl (by decide) rfl (by kernel_rfl) (by simp [Tryz.f5]) ?_⟩
  simp only [Tryz.f5]
  unfold posV at *
  repeat' (first | (with_reducible first | refine call_p (ht) ?_ | refine qG_call (ht) ?_ | refine zG_call (ht) ?_ | refine yG_call (ht) ?_ | refine piG_call (ht) ?_) | ((with_reducible refine call_fr hf.dv [] ?_ ?_ ?_ ?_); (· kernel_rfl); (· exact trivial); (· rfl); intro xx hx; rcases xx with _ | ⟨⟨t1, a1⟩, t2, a2⟩ <;> first | simp only [fixDV0, rlDV0] | simp only [fixDV (pl_app (msL_pl lm) hx.1.2.2.2) (pl_app (isL_plx cn) hx.2.2.2.2), rlDV, List.length_cons, List.length_nil, Nat.zero_add, Nat.reduceAdd, List.cons_append, List.nil_append]) | ((with_reducible refine call_fr (legal_ok c hpos) [] ?_ ?_ ?_ ?_); (· kernel_rfl); (· exact trivial); (· rfl); intro yy hy; rcases yy with _ | ⟨tl9, cap9⟩ <;> first | (have hz : (legL c).length = 0 := hy.1; simp only [fix_sl0, slH_none, rl_slice0]) | simp only [fix_sl (con := msL (legL c)) (pl_app (msL_pl _) hy.2.2.2), slH_some, rl_slS, List.length_cons, List.length_nil, Nat.zero_add, Nat.reduceAdd, List.cons_append, List.nil_append]) | ((with_reducible refine loop (c := Code.seq (Code.region 10 _ _) _) (V := [0, 1, 2, 4, 5, 6, 7, 8, 9, 10, 11, 12, 13, 14, 15, 16, 17, 19, 27, 52, 53, 54, 55, 56, 62, 70, 80, 81, 82, 83, 106]) (fun i : Nat => ([(1, .int .i64 ((d + 1 : Nat) : Int)), (2, .pointer (some ⟨100, 0, none⟩)), (5, .pointer (some ⟨101, 0, none⟩)), (7, .slice (some ⟨102, 0, none⟩) lm.length a1), (8, .slice (some ⟨103, 0, none⟩) lm.length a2), (10, .slice (some ⟨104, 0, none⟩) (legL c).length cap9), (53, .slice (some ⟨102, 0, none⟩) lm.length a1), (54, .int .i64 lm.length), (11, .int .i64 (sumK (iAt cn) i)), (55, .int .i64 i)], [.cells (ints .i64 69 c) 24, .cells (ints .i64 8 T) 28, .cells (msL lm ++ t1) 38, .cells (isL cn ++ t2) 3, .cells (msL (legL c) ++ tl9) 38])) (fun i => i ≤ lm.length) (fun i => lm.length - i) 0 (by kernel_rfl) (by omega) ?_ (fun i hi => ?_)); rotate_left; have hnd := fun k => hf.nd k i; have hmem := hf.mem i; have hbd := hf.bd i; have hpf := hf.pf i; have hsb := hf.sb i; have hsb1 := hf.sb (i + 1); have hcb := hf.cb i; have hcl := hf.hl) | with_reducible refine loop (c := Code.seq (Code.region 10 _ _) _) (V := [0, 1, 2, 4, 5, 6, 7, 8, 9, 10, 11, 12, 13, 14, 15, 16, 17, 19, 27, 52, 53, 54, 55, 56, 62, 70, 80, 81, 82, 83, 106]) (fun k : Nat => ([(5, .pointer (some ⟨101, 0, none⟩)), (11, .int .i64 0), (54, .int .i64 0), (55, .int .i64 0)], [.cells (ints .i64 69 c) 24, .cells (ints .i64 8 T) 28])) (fun _ => True) (fun k => 0) 0 (by kernel_rfl) trivial ?_ (fun k hk => ?_) | ((with_reducible refine loop (c := Code.seq (Code.seq (Code.region 13 _ _) _) _) (V := [0, 1, 2, 4, 5, 6, 7, 8, 9, 10, 11, 12, 13, 14, 15, 16, 17, 19, 27, 52, 53, 54, 55, 56, 62, 70, 80, 81, 82, 83, 106]) (fun k : Nat => ([(1, .int .i64 ((d + 1 : Nat) : Int)), (2, .pointer (some ⟨100, 0, none⟩)), (5, .pointer (some ⟨101, 0, none⟩)), (7, .slice (some ⟨102, 0, none⟩) lm.length a1), (8, .slice (some ⟨103, 0, none⟩) lm.length a2), (10, .slice (some ⟨104, 0, none⟩) (legL c).length cap9), (53, .slice (some ⟨102, 0, none⟩) lm.length a1), (54, .int .i64 lm.length), (11, .int .i64 (sumK (iAt cn) i)), (55, .int .i64 i), (12, .int .i64 i), (13, .pointer (some ⟨105, 0, none⟩)), (14, .int .i64 k)], [.cells (ints .i64 69 c) 24, .cells (ints .i64 8 T) 28, .cells (msL lm ++ t1) 38, .cells (isL cn ++ t2) 3, .cells (msL (legL c) ++ tl9) 38, .cells (mB (mAt lm i)) 38])) (fun k => k ≤ i) (fun k => i - k) 0 (by kernel_rfl) (by omega) ?_ (fun k hk => ?_)); rotate_left) | ((with_reducible refine loop (c := Code.seq (Code.region 20 _ _) _) (V := [0, 1, 2, 4, 5, 6, 7, 8, 9, 10, 11, 12, 13, 14, 15, 16, 17, 19, 27, 52, 53, 54, 55, 56, 62, 70, 80, 81, 82, 83, 106]) (fun j : Nat => ([(1, .int .i64 ((d + 1 : Nat) : Int)), (2, .pointer (some ⟨100, 0, none⟩)), (5, .pointer (some ⟨101, 0, none⟩)), (7, .slice (some ⟨102, 0, none⟩) lm.length a1), (8, .slice (some ⟨103, 0, none⟩) lm.length a2), (10, .slice (some ⟨104, 0, none⟩) (legL c).length cap9), (53, .slice (some ⟨102, 0, none⟩) lm.length a1), (54, .int .i64 lm.length), (11, .int .i64 (sumK (iAt cn) i)), (55, .int .i64 i), (12, .int .i64 i), (13, .pointer (some ⟨105, 0, none⟩)), (15, .int .i64 (iAt cn i)), (16, .bool true), (17, .bool (foundB (legL c) (mAt lm i) j)), (80, .slice (some ⟨104, 0, none⟩) (legL c).length cap9), (81, .int .i64 (legL c).length), (82, .int .i64 j)], [.cells (ints .i64 69 c) 24, .cells (ints .i64 8 T) 28, .cells (msL lm ++ t1) 38, .cells (isL cn ++ t2) 3, .cells (msL (legL c) ++ tl9) 38, .cells (mB (mAt lm i)) 38])) (fun j => j ≤ (legL c).length) (fun j => (legL c).length - j) 0 (by kernel_rfl) (by omega) ?_ (fun j hj => (fun (mk : True) => ?_) trivial)); rotate_left) | (have hz : j = (legL c).length := (by omega); subst hz; have hfa := found_all (hmem (by omega)); simp only [hfa]; clear mk hfa) | (with_reducible first | refine call_p (made_okM c (hbd (by omega)) hpos.bd hpos.turn hpos.cast hpos.half hpos.full) ?_ | refine qG_call (made_okM c (hbd (by omega)) hpos.bd hpos.turn hpos.cast hpos.half hpos.full) ?_ | refine zG_call (made_okM c (hbd (by omega)) hpos.bd hpos.turn hpos.cast hpos.half hpos.full) ?_ | refine yG_call (made_okM c (hbd (by omega)) hpos.bd hpos.turn hpos.cast hpos.half hpos.full) ?_ | refine piG_call (made_okM c (hbd (by omega)) hpos.bd hpos.turn hpos.cast hpos.half hpos.full) ?_ | refine call_p (hpf (by omega)) ?_ | refine qG_call (hpf (by omega)) ?_ | refine zG_call (hpf (by omega)) ?_ | refine yG_call (hpf (by omega)) ?_ | refine piG_call (hpf (by omega)) ?_ | refine draw (by kernel_rfl) (by kernel_rfl) ?_ | refine seq_k fun K hK => ?_) | (with_reducible refine hK _ _ ?_; clear hK) | ((with_reducible first | refine gd_dec ?_ ?_ | refine gd_ndec ?_ ?_ | refine qC_dec ?_ ?_ | refine qC_ndec ?_ ?_ | refine piC_dec ?_ ?_ | refine piC_ndec ?_ ?_ | refine zC_dec ?_ ?_ | refine zC_ndec ?_ ?_ | refine zD_dec ?_ ?_ | refine yC_dec ?_ ?_ | refine yC_ndec ?_ ?_ | refine if_dec ?_ ?_ | refine if_ndec ?_ ?_) <;> intro hh) | simp -implicitDefEqProofs (disch := first | omega | assumption) only [go_sem, ↓reduceIte, Nat.reduceEqDiff, Int.reduceEq, Nat.reduceAdd, Nat.reduceSub, Nat.reduceMul, Nat.mul_one, Nat.one_mul, List.length_nil, List.length_cons, List.nil_append, List.cons_append, List.length_append, List.set_cons_zero, List.set_cons_succ, Nat.zero_add, Nat.sub_zero, Option.isNone_none, Option.isNone_some, Int.toNat_natCast, Nat.add_sub_cancel_left, Bool.not_true, Bool.not_false, BitVec.reduceOfInt, Int.reduceToNat, onGd_T, onGd_F, pickV_T, pickV_F, decT, decF, zero8, sub_ints, wr_i8, wr_1i, e_38m, msL_sub, pred1, wr_m0, isL_g, sub_mB] | ((with_reducible first | refine gd_bool ?_ ?_ | refine if_bool ?_ ?_ | refine qC_bool ?_ ?_ | refine piC_bool ?_ ?_ | refine zC_bool ?_ ?_ | refine zD_bool ?_ ?_ | refine yC_bool ?_ ?_) <;> intro hh) | clear hK)
  all_goals first
    | rfl
    | omega
    | (exfalso; have h0 : lm.length = 0 := hx; omega)
    | (exfalso; have h0 : (legL c).length = 0 := hy.1; omega)
    | (exfalso; exact absurd trivial (by assumption))
    | (refine VS.sub2 ?_ rfl
       simp [Fr.sub, Fr.get, sumK_0, found_0]; done)
    | (have h0 : (lm.length : Int) = 0 := by first | (have : lm.length = 0 := hx; omega) | (have : (legL c).length = 0 := hy.1; omega)
       refine VS.cutT rfl (by simp) ⟨plW (ints_pl _ _ _), plW (ints_pl _ _ _), trivial⟩ ?_
       have h1 : lm = [] := List.length_eq_zero_iff.1 (by omega)
       simp [subW, Fr.get, wf_int, wf_pt, h1]; done)
    | (have h0 : lm.length = 0 := by first | exact hx | (have : (legL c).length = 0 := hy.1; omega)
       have h1 := hf.sum
       rw [h0, sumK_0] at h1
       rw [decide_eq_true h1]; done)
    | (have h0 : i = lm.length := by omega
       rw [h0, decide_eq_true hf.sum]; done)
    | (exfalso; exact hnd k (by omega) (by omega) (by assumption))
    | (refine ⟨k + 1, by omega, by omega, VS.sub2 ?_ rfl⟩
       simp [Fr.sub, Fr.get]; done)
    | (refine VS.sub2 ?_ rfl
       simp [Fr.sub, Fr.get, found_0]; done)
    | (have hfs : foundB (legL c) (mAt lm i) j = true := by assumption
       refine ⟨j + 1, by omega, by omega, VS.cutT rfl (by simp) ⟨plW (ints_pl _ _ _), plW (ints_pl _ _ _), plW (pl_app (msL_pl lm) hx.1.2.2.2), plW (pl_app (isL_plx cn) hx.2.2.2.2), plW (pl_app (msL_pl (legL c)) hy.2.2.2), plW (mB_pl _), trivial⟩ ?_⟩
       rw [found_S, hfs, Bool.true_or]
       simp [subW, Fr.get, wf_int, wf_sl, wf_pt, wf_bool]; done)
    | (have hfs : foundB (legL c) (mAt lm i) j = false := by assumption
       refine ⟨j + 1, by omega, by omega, VS.cutT rfl (by simp) ⟨plW (ints_pl _ _ _), plW (ints_pl _ _ _), plW (pl_app (msL_pl lm) hx.1.2.2.2), plW (pl_app (isL_plx cn) hx.2.2.2.2), plW (pl_app (msL_pl (legL c)) hy.2.2.2), plW (mB_pl _), trivial⟩ ?_⟩
       rw [found_S, hfs, Bool.false_or]
       simp [subW, Fr.get, wf_int, wf_sl, wf_pt, wf_bool]; done)
    | (refine ⟨i + 1, by omega, by omega, VS.cutT rfl (by simp) ⟨plW (ints_pl _ _ _), plW (ints_pl _ _ _), plW (pl_app (msL_pl lm) hx.1.2.2.2), plW (pl_app (isL_plx cn) hx.2.2.2.2), plW (pl_app (msL_pl (legL c)) hy.2.2.2), trivial⟩ ?_⟩
       rw [sumK_S]
       simp [subW, Fr.get, wf_int, wf_sl, wf_pt, wf_bool]; done)
end Go.Tb
end
section
namespace Go.Tb
open Go Go.Proofs
set_option maxRecDepth 20000
def fl (s : Nat) : Nat := 8 * (7 - s / 8) + s % 8
def sw (n : Int) : Int := if n > 6 then n - 6 else if n > 0 then n + 6 else n
section
variable {n b : Int}
end
structure Mir (c c' : Nat → Int) : Prop where
  bd : Bd c
  t01 : 0 ≤ c 64 ∧ c 64 ≤ 1
  sq : ∀ s : Nat, s < 64 → c' (fl s) = sw (c s)
  turn : c' 64 = 1 - c 64
  cb : (0 ≤ c 65 ∧ c 65 ≤ 15) ∧ (0 ≤ c' 65 ∧ c' 65 ≤ 15)
  cast : ∀ r : Nat, r < 4 → (bitI (c' 65) ((r + 2) % 4) = 1 ↔ bitI (c 65) r = 1)
  ep : (c 66 = -1 ∧ c' 66 = -1) ∨ (0 ≤ c 66 ∧ c 66 ≤ 63 ∧ c' 66 = fl (c 66).toNat)
section
variable {c c' : Nat → Int} {f t s k : Nat}
def mirOk (i j k : Nat) : Bool := decide (onRay i j) && decide (i ≠ j) && decide (k ≤ distOf i j) && !(decide (((fl i : Nat) : Int) + k * wayOf (fl i : Nat) (fl j : Nat) = ((fl ((i : Int) + k * wayOf i j).toNat : Nat) : Int)))
end
end Go.Tb
end
section
namespace Go.Tb
open Go Go.Proofs
set_option maxRecDepth 20000
def mirM (m : M3) : M3 := (((fl m.1.toNat : Nat) : Int), ((fl m.2.1.toNat : Nat) : Int), m.2.2)
section
variable {c c' : Nat → Int} {f t s k r : Nat} {m : M3}
end
end Go.Tb
end
section
namespace Go.Tb
open Go Go.Proofs
set_option maxRecDepth 20000
section
variable {c c' : Nat → Int} {f t s k r : Nat} {m : M3}
theorem cs_nd {l : List UInt8} {D : Pd} {B : Brd} : ∀ n : Nat, n ≤ 4 → ((csL l D B n).map toM).Nodup
  | 0, _ => by simp [csL]
  | n + 1, h => by
    simp only [csL, List.map_append]
    split
    · refine List.nodup_append.2 ⟨cs_nd n (by omega), by simp, fun a ha b hb e => ?_⟩
      obtain ⟨M, hM, rfl⟩ := List.mem_map.1 ha
      obtain ⟨r, hr, _, rfl⟩ := (cs_mem n).1 hM
      simp only [List.map_cons, List.map_nil, List.mem_singleton] at hb
      subst hb
      rw [kM_to _ _ (by omega : r < 4), kM_to _ _ (by omega : n < 4)] at e
      have e2 : (casT r : Int) = casT n := congrArg (·.2.1) e
      have : ∀ a b : Fin 4, casT a.val = casT b.val → a.val = b.val := by decide
      have := this ⟨r, by omega⟩ ⟨n, by omega⟩ (by simp only; omega)
      simp only at this; omega
    · simp only [List.map_nil, List.append_nil]; exact cs_nd n (by omega)
theorem cas_not_nrm (hi : InvC c) (hr : r < 4) (hc : CasOk c r) : ¬ NrmM c ((casF r : Int), (casT r : Int), 0) := by
  rintro ⟨f, t, hf, ht, ho, hg, hn, e1, e2, hp⟩
  have hmv := hc.mv hi hr
  have ef : f = casF r := by simp only at e1; omega
  have et : t = casT r := by simp only at e2; omega
  subst ef; subst et
  have hk : kindOf (c (casF r)) = 1 := by rw [hmv.king]; exact kind_king (by have := hi.turn; omega)
  unfold tgtP at hg
  rw [if_neg (by omega)] at hg
  unfold reachP at hg
  rw [if_pos hk] at hg
  have hr4 : r = 0 ∨ r = 1 ∨ r = 2 ∨ r = 3 := by omega
  rcases hr4 with rfl | rfl | rfl | rfl <;> exact absurd hg.2.1 (by decide)
theorem leg_nd (hi : InvC c) : (legL c).Nodup := by
  have hs := rep_init hi
  refine (all_perm hs hi).nodup_iff.1 ?_
  unfold allS allL
  rw [List.map_append]
  refine List.nodup_append.2 ⟨std_nd hs.d.b, cs_nd 4 (Nat.le_refl _), fun a ha b hb e => ?_⟩
  subst e
  have h1 := (std_iff hs.d hi).1 ha
  obtain ⟨M, hM, rfl⟩ := List.mem_map.1 hb
  obtain ⟨r, hr, hk, rfl⟩ := (cs_mem 4).1 hM
  rw [kM_to _ _ hr] at h1
  exact cas_not_nrm hi hr ((kC_iff hs hi hr).1 hk) h1.1
end
end Go.Tb
end
section
namespace Go.Tb
open Go Go.Proofs
set_option maxRecDepth 20000
def Msq (g g' : Nat → Int) : Prop := ∀ s : Nat, s < 64 → g' (fl s) = sw (g s)
section
variable {c c' : Nat → Int} {f t s k r : Nat} {m : M3} {p : Int}
end
end Go.Tb
end
section
namespace Go.Tb
open Go Go.Proofs
set_option maxRecDepth 20000
section
variable {c : Nat → Int} {f t e r : Nat} {p x : Int} {B : Brd} {D : Pd} {s : PSt} {M : Mv} {v : Bool}
structure BitsC (c : Nat → Int) (M : Mv) : Prop where
  t8 : tagOn M 8 = psB c (toM M)
  t48 : (tagOn M 4 || tagOn M 8) = tkB c (toM M)
  t12 : (tagOn M 1 || tagOn M 2) = ksB c (toM M)
end
end Go.Tb
end
section
namespace Go.Tb
open Go Go.Proofs
set_option maxRecDepth 20000
attribute [local irreducible] tg4 madeC updB attB inChk
section
variable {c : Nat → Int} {s : PSt} {M : Mv}
end
def TagC (d : Nat) : Prop := ∀ (c : Nat → Int) (s : PSt) (w N : Int), InvC c → RepS c s → (0 ≤ s.2.1.half ∧ s.2.1.half ≤ N) → (0 ≤ s.2.1.mc ∧ s.2.1.mc ≤ N) → N + (d + 1) ≤ 1000000 → (tallyF (d + 1) c w).2.1 = true → PtOk (d + 1) s ∧ ∀ i, i < 8 → ptN (d + 1) s i = (tallyF (d + 1) c w).1 i
theorem gOne_all {c : Nat → Int} {m : M3} {w : Int} (h : (gOne c m w).2.1 = true) : dbtB c m = false ∧ ¬ 218 < (legL (madeM c m)).length ∧ (gOne c m w).1 = tagI c m := by
  unfold gOne at h ⊢
  split at h
  · cases h
  · rename_i h1
    rw [if_neg h1]
    split at h
    · cases h
    · rename_i h2
      rw [if_neg h2]
      refine ⟨?_, h2, rfl⟩
      cases hx : dbtB c m
      · rfl
      · exact absurd (.inr hx) h1
theorem gMore_all {d : Nat} {c : Nat → Int} {m : M3} {w : Int} (h : (gMore d c m w).2.1 = true) : dbtB c m = false ∧ (tallyF (d + 1) (madeM c m) (w - 1)).2.1 = true ∧ (gMore d c m w).1 = (tallyF (d + 1) (madeM c m) (w - 1)).1 := by
  unfold gMore at h ⊢
  split at h
  · cases h
  · rename_i h1
    rw [if_neg h1]
    refine ⟨?_, h, rfl⟩
    cases hx : dbtB c m
    · rfl
    · exact absurd (.inr hx) h1
attribute [local irreducible] ptN tallyF sumL allS legL tLoop gOne gMore nxt p1 tagI
end Go.Tb
end
