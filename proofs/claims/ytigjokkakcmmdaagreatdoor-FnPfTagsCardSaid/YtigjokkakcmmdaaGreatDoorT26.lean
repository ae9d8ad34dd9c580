/-
  A part of the proof (my own): of the texts that the claim's last text rests on: parts M, N, L3, M1, M2, M3, M4, O1.
-/
import Derived.Recover
import Derived.Test.YtigjokkakcmmdaaGreatDoorT09
import Derived.Test.YtigjokkakcmmdaaGreatDoorT07
import Derived.Test.YtigjokkakcmmdaaGreatDoorT25
import Derived.Test.YtigjokkakcmmdaaGreatDoorT12
import Derived.Test.YtigjokkakcmmdaaGreatDoorT15
import Derived.Test.YtigjokkakcmmdaaGreatDoorT20
set_option linter.unusedSimpArgs false
set_option linter.unusedVariables false
section
namespace Go.Tb
open Go Go.Proofs
section
variable {ng : Nat} {ρ : Nat → Nat} {L : List AO} {w : World}
theorem sim_setO {b : Nat} {o o' : Obj} (hs : Sim ng ρ L w) (hb : L[b]? = some (.obj o)) : Sim ng ρ (L.set b (.obj o')) (setBlk w (ρ b) o') := by
  have hbl : b < L.length := (List.getElem?_eq_some_iff.1 hb).1
  have hlt := hs.lt b hbl
  have hne : ∀ i, i < L.length → i ≠ b → ρ b ≠ ρ i := fun i hi hib e => hib (hs.inj b i _ hb rfl hi e).symm
  have hget : ∀ i (q : AO), (L.set b (.obj o'))[i]? = some q → (i = b ∧ q = .obj o') ∨ (i ≠ b ∧ L[i]? = some q) := fun i q h => by
    rw [List.getElem?_set] at h
    split at h
    · rename_i e; subst e
      simp only [hbl, if_true, Option.some.injEq] at h
      exact .inl ⟨rfl, h.symm⟩
    · rename_i e; exact .inr ⟨fun e' => e e'.symm, h⟩
  refine ⟨by simpa using hs.ngl, hs.glob, ?_, ?_, ?_, ?_, ?_⟩
  · intro i j q h hw' hj e
    simp only [List.length_set] at hj
    rcases hget i q h with ⟨rfl, rfl⟩ | ⟨hi, h⟩
    · exact hs.inj i j _ hb rfl hj e
    · exact hs.inj i j q h hw' hj e
  · intro i hi
    rw [setBlk_size]
    exact hs.lt i (by simpa using hi)
  · intro i d S h
    simp only [List.length_set]
    rcases hget i _ h with ⟨rfl, e⟩ | ⟨hi, h⟩
    · cases e
    · rw [setBlk_ne (hne i (List.getElem?_eq_some_iff.1 h).1 hi)]
      exact hs.cells i d S h
  · intro i z d h
    simp only [List.length_set]
    rcases hget i _ h with ⟨rfl, e⟩ | ⟨hi, h⟩
    · cases e
    · obtain ⟨h1, h2⟩ := hs.ro i z d h
      refine ⟨fun j v hv => ?_, h2⟩
      rw [World.cell?_of_block (w := w) (a := ⟨ρ i, z + j, none⟩) (setBlk_ne (hne i (List.getElem?_eq_some_iff.1 h).1 hi))]
      exact h1 j v hv
  · intro i d h
    rcases hget i _ h with ⟨rfl, e⟩ | ⟨hi, h⟩
    · cases e; exact setBlk_same hlt
    · rw [setBlk_ne (hne i (List.getElem?_eq_some_iff.1 h).1 hi)]
      exact hs.obj i d h
end
def mapE (l : List (Int × Int)) : Array MapEntry := (l.zipIdx.map fun p => (⟨.int .i8 p.1.1, .int .i8 p.1.2, p.2⟩ : MapEntry)).toArray
def mapO (l : List (Int × Int)) : Obj := .map (mapE l) l.length
theorem mapE_push (l : List (Int × Int)) (s p : Int) : (mapE l).push ⟨.int .i8 s, .int .i8 p, l.length⟩ = mapE (l ++ [(s, p)]) := by
  simp [mapE, List.zipIdx_append]
def lkM (l : List (Int × Int)) (s : Int) : Option Int := (l.find? fun p => decide (p.1 = s)).map (·.2)
theorem findNow_map (k : IntKind) (s : Int) : ∀ (l : List (Int × Int)) (n i : Nat), ∃ r, Instr.findNow (.int k) (.int .i8 s) ((l.zipIdx n).map fun p => (⟨.int .i8 p.1.1, .int .i8 p.1.2, p.2⟩ : MapEntry)) i = some r ∧ r.map (·.2) = (lkM l s).map (.int .i8)
  | [], n, i => ⟨none, rfl, rfl⟩
  | (a, b) :: l, n, i => by
    by_cases h : s = a
    · exact ⟨some (i, .int .i8 b), by simp [Instr.findNow, Instr.sameNow, h], by simp [lkM, h]⟩
    · obtain ⟨r, h1, h2⟩ := findNow_map k s l (n + 1) (i + 1)
      refine ⟨r, ?_, ?_⟩
      · simp only [List.zipIdx_cons, List.map_cons, Instr.findNow, Instr.sameNow, ↓reduceIte]
        rw [show (s == a) = false by simp [h]]
        exact h1
      · rw [h2]; simp [lkM, Ne.symm h]
section
variable {X : Cx} {fr : Fr} {L : List AO} {K : Value → List AO → Prop}
theorem raw_mk {t : TypeId} (h : K (.map (some (100 + L.length))) (L ++ [.obj (.map #[] 0)])) : RawO X fr L (.makeMap t none) K := by
  intro N D ρ w a hs hf
  have hsim := sim_push (o := .obj (.map #[] 0)) (ob := .map #[] 0) hs (fun c T e => by cases e) (fun _ _ e => by cases e) (fun p e => by cases e; rfl)
  have hext := ext_push (ρ := ρ) (L := X.pad ++ L) (w := w) (o := .obj (.map #[] 0)) (ob := .map #[] 0)
  rw [List.append_assoc] at hsim hext
  refine ⟨.map (some (100 + L.length)), _, _, pushBlk w (.map #[] 0), fun o ho => .inl ?_, h, ?_, hsim, hext⟩
  · simp [execOp, ho, Instr.makeMap, newObj, Sem.run, pushBlk, upN, X.len]
  · intro ρ1 ρ2 e
    simp only [rl_map]
    rw [e _ (by simp [X.len])]
theorem run_getObj {P : Program} {r : Nat} {es : Array MapEntry} {n : Nat} {w : World} (h : w.heap[r]? = some (.map es n)) : (getObj r).run P w = .ok (.map es n) w := by
  simp [getObj, Sem.run, h]
theorem run_setObj {P : Program} {r : Nat} {es : Array MapEntry} {n : Nat} {o : Obj} {w : World} (h : w.heap[r]? = some (.map es n)) : (setObj r o).run P w = .ok () (setBlk w r o) := by
  simp [setObj, Sem.run, h, setBlk]
theorem run_checkKey {P : Program} {b : Bool} {kt : TypeId} {ik : IntKind} {n : Nat} {s : Int} {k : IntKind} (h : P.underlying kt = some (.int ik)) (w : World) : (Instr.checkKey b (n + 1) kt (.int k s)).run P w = .ok () w := by
  simp [Instr.checkKey, run_underlying h]
theorem run_findKey {P : Program} {kt : TypeId} {ik : IntKind} {l : List (Int × Int)} {s : Int} (h : P.underlying kt = some (.int ik)) (w : World) : ∃ r, (Instr.findKey kt (.int .i8 s) (mapE l).toList).run P w = .ok r w ∧ r.map (·.2) = (lkM l s).map (.int .i8) := by
  obtain ⟨r, h1, h2⟩ := findNow_map ik s l 0 0
  refine ⟨r, ?_, h2⟩
  simp only [Instr.findKey, Sem.run_bind, run_underlying h, Result.andThen_ok, mapE, h1, Sem.run_pure]
theorem raw_lk {t kt et : TypeId} {ik : IntKind} {i : Nat} {m k : Operand} {s : Int} {l : List (Int × Int)} (hm : evO X.ng fr m = some (.map (some (100 + i)))) (hk : evO X.ng fr k = some (.int .i8 s)) (hL : L[i]? = some (.obj (mapO l)))
    (hP : X.P.underlying t = some (.map kt et)) (hP2 : X.P.underlying kt = some (.int ik)) (hz : (X.P.info? et).bind (fun i => i.zero) = some (.int .i8 0)) (h : K (.tuple #[.int .i8 ((lkM l s).getD 0), .bool (lkM l s).isSome]) L) : RawO X fr L (.lookup t m k true) K := by
  intro N D ρ w a hs hf
  have e1 := (evO_sound hs hf hm).1
  have e2 := (evO_sound hs hf hk).1
  have hb := hs.obj (100 + i) _ (by rw [get_own]; exact hL)
  obtain ⟨zi, hi, hz⟩ := Option.bind_eq_some_iff.1 hz
  obtain ⟨r, hr1, hr2⟩ := run_findKey (P := X.P) (l := l) (s := s) hP2 w
  refine ⟨_, ρ, L, w, fun o ho => .inl ?_, h, ?_, hs, Ext.refl _ _ _⟩
  · simp only [execOp, ho, e1, e2, rl_map, rl_int, Instr.lookup, Sem.run_bind, run_underlying hP, Result.andThen_ok, run_getObj hb, run_checkKey hP2, Sem.run_pure, hr1]
    cases hq : lkM l s with
    | none =>
      rw [hq] at hr2
      cases r with
      | none => simp [run_zero hi hz]
      | some r => simp at hr2
    | some v =>
      rw [hq] at hr2
      cases r with
      | none => simp at hr2
      | some r => obtain ⟨n, x⟩ := r; simp at hr2; subst hr2; simp
  · exact fun _ _ _ => by simp
theorem raw_mu {t kt et : TypeId} {ik : IntKind} {i : Nat} {m k v : Operand} {s p : Int} {l : List (Int × Int)} (hm : evO X.ng fr m = some (.map (some (100 + i)))) (hk : evO X.ng fr k = some (.int .i8 s)) (hv : evO X.ng fr v = some (.int .i8 p)) (hL : L[i]? = some (.obj (mapO l)))
    (hP : X.P.underlying t = some (.map kt et)) (hP2 : X.P.underlying kt = some (.int ik)) (hn : lkM l s = none) (h : K (.tuple #[]) (L.set i (.obj (mapO (l ++ [(s, p)]))))) : RawO X fr L (.mapUpdate t m k v) K := by
  intro N D ρ w a hs hf
  have e1 := (evO_sound hs hf hm).1
  have e2 := (evO_sound hs hf hk).1
  have e3 := (evO_sound hs hf hv).1
  have hL' : (X.pad ++ L)[100 + i]? = some (.obj (mapO l)) := by rw [get_own]; exact hL
  have hb := hs.obj (100 + i) _ hL'
  obtain ⟨r, hr1, hr2⟩ := run_findKey (P := X.P) (l := l) (s := s) hP2 w
  have hsim := sim_setO (o' := mapO (l ++ [(s, p)])) hs hL'
  have hext := ext_set (ρ := ρ) (w := w) (o' := .obj (mapO (l ++ [(s, p)]))) (ob := mapO (l ++ [(s, p)])) hL' rfl rfl
  have hset : (X.pad ++ L).set (100 + i) (.obj (mapO (l ++ [(s, p)]))) = X.pad ++ L.set i (.obj (mapO (l ++ [(s, p)]))) := by
    rw [List.set_append_right _ _ (by rw [X.len]; omega), X.len, Nat.add_sub_cancel_left]
  rw [hset] at hsim hext
  refine ⟨_, ρ, _, _, fun o ho => .inr ⟨rfl, ?_⟩, h, fun _ _ _ => by simp, hsim, hext⟩
  rw [hn] at hr2
  cases r with
  | some r => simp at hr2
  | none =>
    simp only [execOp, ho, e1, e2, e3, rl_map, rl_int, Instr.mapUpdate, Sem.run_bind, run_underlying hP, Result.andThen_ok, run_getObj hb, run_checkKey hP2, Sem.run_pure, hr1, mapE_push, run_setObj hb]
    simp [mapO]
theorem mk_ops {all rest : List Oper} {dst : Option Tmp} {t : TypeId} {type : TypeId} {pos : String} {after : Array Edge} {K : Fr → List AO → Prop} (h : wpOps X all rest (fr.put dst (.map (some (100 + L.length)))) (L ++ [.obj (mapO [])]) K) :
    wpOps X all ({ dst, op := .makeMap t none, type, pos, after, guard := none } :: rest) fr L K := raw_mk h
theorem lk_ops {all rest : List Oper} {dst : Option Tmp} {t kt et : TypeId} {type : TypeId} {pos : String} {after : Array Edge} {K : Fr → List AO → Prop} {ik : IntKind} {i : Nat} {m k : Operand} {s : Int} {l : List (Int × Int)} (hm : evO X.ng fr m = some (.map (some (100 + i)))) (hk : evO X.ng fr k = some (.int .i8 s)) (hL : L[i]? = some (.obj (mapO l)))
    (hP : X.P.underlying t = some (.map kt et)) (hP2 : X.P.underlying kt = some (.int ik)) (hz : (X.P.info? et).bind (fun i => i.zero) = some (.int .i8 0)) (h : wpOps X all rest (fr.put dst (.tuple #[.int .i8 ((lkM l s).getD 0), .bool (lkM l s).isSome])) L K) :
    wpOps X all ({ dst, op := .lookup t m k true, type, pos, after, guard := none } :: rest) fr L K := raw_lk (K := fun v L' => wpOps X all rest (fr.put dst v) L' K) hm hk hL hP hP2 hz h
theorem mu_ops {all rest : List Oper} {dst : Option Tmp} {t kt et : TypeId} {type : TypeId} {pos : String} {after : Array Edge} {K : Fr → List AO → Prop} {ik : IntKind} {i : Nat} {m k v : Operand} {s p : Int} {l : List (Int × Int)} (hm : evO X.ng fr m = some (.map (some (100 + i)))) (hk : evO X.ng fr k = some (.int .i8 s)) (hv : evO X.ng fr v = some (.int .i8 p)) (hL : L[i]? = some (.obj (mapO l)))
    (hP : X.P.underlying t = some (.map kt et)) (hP2 : X.P.underlying kt = some (.int ik)) (hn : lkM l s = none) (h : wpOps X all rest (fr.put dst (.tuple #[])) (L.set i (.obj (mapO (l ++ [(s, p)])))) K) :
    wpOps X all ({ dst, op := .mapUpdate t m k v, type, pos, after, guard := none } :: rest) fr L K := raw_mu (K := fun v L' => wpOps X all rest (fr.put dst v) L' K) hm hk hv hL hP hP2 hn h
end
end Go.Tb
end
section
namespace Go.Tb
open Go Go.Proofs
section
variable {X : Cx} {N : Nat}
theorem startD {f g : FuncId} {fn : Func} {c0 c1 rest : Code} {vs : List Value} {L : List AO} {K : Value → List AO → Prop} (V : List Nat) (nc : Nat) (fr1 : Fr) (L1 : List AO) (hf : X.P.funcs[f]? = some fn) (hb : fn.body = some (.seq c0 (.seq c1 rest))) (hn : (fn.name == "runtime.NumGoroutine") = false)
    (hN : fn.ntmps = N) (hd0 : dstOk N c0 = true) (hdr : dstOk N rest = true) (hl : vs.length ≤ N)
    (h0 : wpC X N [] L.length V c0 (fun e fr L' => e = .normal ∧ fr = fr1 ∧ L' = L1) (initFr 0 vs) L)
    (h1 : ∀ (a : Act) (w : World), a.defers = [] → a.tmps.size = N → c1.wp X.P (fun e a' w' => e = .normal ∧ w' = w ∧ a'.tmps.size = N ∧ (∀ t v, fr1.get t = some v → a'.tmps[t]? = a.tmps[t]?) ∧ ∃ cap : Array Value, a'.defers = [⟨.fn (.func g) cap, #[]⟩] ∧ cap.size = nc) a w)
    (hgo : callOk X.P g = true) (hg : ∀ (cap : Array Value) (w : World), cap.size = nc → CallsD X.P g cap .returning w fun e u' w' => u' = .returning ∧ (∃ v, e = .returned v) ∧ w' = w)
    (h2 : ∀ D, wpC X N D L.length V rest (retQ X fn.results.toList K) fr1 L1) : CallM X f vs L K := by
  subst hN
  refine ⟨by simp [callOk, hf, hb, hn], fun ρ w hs hw => ?_⟩
  refine calls_of_wp_defers hf hb ?_
  have hfr : FRel fn.ntmps [] ρ (X.pad ++ L).length (initFr 0 vs) ⟨(vs.map (rl ρ)).toArray ++ Array.replicate (fn.ntmps - (vs.map (rl ρ)).toArray.size) undef, []⟩ := by
    refine ⟨by simp; omega, rfl, fun t v hv => ?_⟩
    obtain ⟨_, h2⟩ := initFr_get vs 0 t v hv
    simp only [Nat.sub_zero] at h2
    have ht : t < vs.length := (List.getElem?_eq_some_iff.1 h2).1
    refine ⟨?_, hw v (List.mem_of_getElem? h2)⟩
    rw [Array.getElem?_append_left (by simpa using ht)]
    simp [h2]
  refine wp_seq (wp_mono (wpC_sound c0 hd0 h0 ρ L w ρ _ w rfl hs hfr (Ext.refl _ _ _)) ?_)
  rintro e a1 w1 ⟨ρ1, fr', L', ⟨rfl, rfl, rfl⟩, s1, f1, x1⟩
  refine wp_seq (wp_mono (h1 a1 w1 f1.defers f1.size) ?_)
  rintro e a2 w2 ⟨rfl, rfl, hsz, hsame, cap, hdef, hcap⟩
  have f2 : FRel fn.ntmps [⟨.fn (.func g) cap, #[]⟩] ρ1 (X.pad ++ L').length fr' a2 := ⟨hsz, hdef, fun t v hv => by rw [hsame t v hv]; exact f1.tmps t v hv⟩
  refine wp_mono (wpC_sound rest hdr (h2 _) ρ L w ρ1 a2 w2 rfl s1 f2 x1) ?_
  rintro e a' w' ⟨ρ', fr2, L2, q, s, f, x⟩
  have key : ∀ e, (e = .normal ∨ e = .ret) → onV (resV X fr2 L2 fn.results.toList) (fun vs => K (resOf vs) L2) → bodyPostD X.P fn (fun e w' => ∃ ρ' v L', e = .returned (rl ρ' v) ∧ K v L' ∧ WF (X.pad ++ L').length v ∧ Sim X.ng ρ' (X.pad ++ L') w' ∧ Ext ρ (X.pad ++ L) w ρ' (X.pad ++ L') w') e a' w' := by
    intro e he q
    obtain ⟨us, hus, hk⟩ := onV_spec q
    obtain ⟨h1, h2⟩ := run_results (fn := fn) s f hus
    have hlv : Leaves X.P fn a'.tmps (fun e w' => ∃ ρ' v L', e = .returned (rl ρ' v) ∧ K v L' ∧ WF (X.pad ++ L').length v ∧ Sim X.ng ρ' (X.pad ++ L') w' ∧ Ext ρ (X.pad ++ L) w ρ' (X.pad ++ L') w') a'.defers .returning w' := by
      rw [f.defers]
      refine ⟨by simp, .func g, cap, g, cap, rfl, ?_, ?_⟩
      · have := callOk_spec hgo cap w'
        simpa [invoke] using this
      · refine (hg cap w' hcap).mono ?_
        rintro e u' w'' ⟨rfl, ⟨v, rfl⟩, rfl⟩
        exact ⟨_, h1, ρ', _, L2, rfl, hk, h2, s, x⟩
    rcases he with rfl | rfl <;> exact hlv
  cases e with
  | normal => exact key _ (.inl rfl) q
  | ret => exact key _ (.inr rfl) q
  | _ => exact q.elim
end
theorem arr2 {cap : Array Value} (h : cap.size = 2) : ∃ x y, cap = #[x, y] := by
  obtain ⟨l⟩ := cap
  match l, h with
  | [x, y], _ => exact ⟨x, y, rfl⟩
end Go.Tb
end
section
namespace Go.Tb
open Go Go.Proofs
variable {z : Nat × Nat}
set_option maxRecDepth 20000
def PfC (z : Nat × Nat) (d : Nat) : Prop := ∀ s : PSt, PfOk d s → FnM (Tz z) 17 [.pointer (some ⟨100, 0, none⟩), .int .i64 d] [.cells (psL 101 nilS s.2.1) 82, .cells (boardL s.2.2) 110] (fun _ : Unit => True) (fun _ => .int .i64 (pfN d s)) (fun _ => [.any, .any])
theorem sumK_0 (f : Nat → Int) : sumK f 0 = 0 := rfl
theorem sumK_S (f : Nat → Int) (k : Nat) : sumK f (k + 1) = sumK f k + f k := rfl
theorem pow_le5 {d : Nat} (h : d ≤ 5) : (220 : Int) ^ d ≤ 220 ^ 5 := by
  have : d = 0 ∨ d = 1 ∨ d = 2 ∨ d = 3 ∨ d = 4 ∨ d = 5 := by omega
  rcases this with rfl | rfl | rfl | rfl | rfl | rfl <;> decide
end Go.Tb
end
section
namespace Go.Tb
open Go Go.Proofs
variable {z : Nat × Nat}
set_option maxRecDepth 20000
def bbL (l : List (Int × Int)) (p : Int) : Nat → BitVec 64
  | 0 => 0#64
  | n + 1 => if ((lkM l n).isSome && decide (p = (lkM l n).getD 0)) = true then bbL l p n <<< 1 ||| 1#64 else bbL l p n <<< 1
def zBrd : Brd := ⟨0#64, 0#64, 0#64, 0#64, 0#64, 0#64, 0#64, 0#64, 0#64, 0#64, 0#64, 0#64, 0#64, 0#64, 0#64, 0, 0⟩
def nbK (l : List (Int × Int)) : Nat → Brd
  | 0 => zBrd
  | k + 1 => putP (nbK l k) ((k : Int) + 1) (bbL l ((k : Int) + 1) 64)
theorem nbK_get (l : List (Int × Int)) (k : Nat) : nbK l (k + 1) = putP (nbK l k) ((k : Int) + 1) (bbL l ((k : Int) + 1) 64) := rfl
theorem wf_map {n b : Nat} (h : b < n) : WF n (.map (some b)) := fun ρ ρ' e => by simp [e b h]
theorem zb_bd : ([.int .u64 0, .int .u64 0, .int .u64 0, .int .u64 0, .int .u64 0, .int .u64 0, .int .u64 0, .int .u64 0, .int .u64 0, .int .u64 0, .int .u64 0, .int .u64 0, .int .u64 0, .int .u64 0, .int .u64 0, .int .i8 0, .int .i8 0] : List Value) = boardL zBrd := rfl
theorem bbL_y {l : List (Int × Int)} {p : Int} {j : Nat} (h1 : (lkM l j).isSome = true) (h2 : p = (lkM l j).getD 0) : bbL l p (j + 1) = bbL l p j <<< 1 ||| 1#64 := by
  rw [bbL, if_pos (by rw [h1, decide_eq_true h2]; rfl)]
theorem bbL_n1 {l : List (Int × Int)} {p : Int} {j : Nat} (h1 : (lkM l j).isSome = false) : bbL l p (j + 1) = bbL l p j <<< 1 := by
  rw [bbL, if_neg (by rw [h1]; simp)]
theorem bbL_n2 {l : List (Int × Int)} {p : Int} {j : Nat} (h2 : ¬ p = (lkM l j).getD 0) : bbL l p (j + 1) = bbL l p j <<< 1 := by
  rw [bbL, if_neg (by rw [decide_eq_false h2]; simp)]
set_option maxHeartbeats 4000000 in
theorem newBoard_ok (l : List (Int × Int)) : FnM (Tz z) 64 [.map (some 100)] [.obj (mapO l)] (fun _ : Unit => True) (fun _ => .pointer (some ⟨101, 0, none⟩)) (fun _ => [.obj (mapO l), .cells (boardL (calcN (nbK l 12))) 110]) := by
  refine ⟨?_, ?_, fun _ _ o ho => ?_, start [0, 2, 3, 5, 6, 7, 8, 9, 12, 13, 14, 15, 18, 19, 35] Tryz.func64 rfl (by decide) rfl (by kernel_rfl) (by simp [Tryz.f64]) ?_⟩
  · intro u hu
    simp only [List.mem_cons, List.not_mem_nil, or_false] at hu; subst hu
    exact wf_map (by simp)
  · intro o ho
    simp only [List.mem_cons, List.not_mem_nil, or_false] at ho; subst ho
    trivial
  · simp at ho; subst ho; rfl
  simp only [Tryz.f64]
  repeat' (first | with_reducible refine loop (c := Code.seq (Code.region 3 _ _) _) (V := [0, 2, 3, 5, 6, 7, 8, 9, 12, 13, 14, 15, 18, 19, 35]) (fun k : Nat => ([(0, .map (some 100)), (3, .pointer (some ⟨101, 0, none⟩)), (12, .slice (some ⟨12, z.1, none⟩) 12 12), (13, .int .i64 12), (14, .int .i64 k)], [.obj (mapO l), .cells (boardL (nbK l k)) 110])) (fun k => k ≤ 12) (fun k => 12 - k) 0 (by kernel_rfl) ?_ ?_ (fun k hk => ?_) | with_reducible refine loop (c := Code.seq (Code.region 7 _ _) _) (V := [0, 2, 3, 5, 6, 7, 8, 9, 12, 13, 14, 15, 18, 19, 35]) (fun j : Nat => ([(0, .map (some 100)), (3, .pointer (some ⟨101, 0, none⟩)), (12, .slice (some ⟨12, z.1, none⟩) 12 12), (13, .int .i64 12), (14, .int .i64 k), (5, .int .i8 ((k : Int) + 1)), (6, bv (bbL l ((k : Int) + 1) j)), (18, .int .i64 j)], [.obj (mapO l), .cells (boardL (nbK l k)) 110])) (fun j => j ≤ 64) (fun j => 64 - j) 0 (by kernel_rfl) ?_ ?_ (fun j hj => ?_) | (with_reducible refine lk_ops (X := Tz z) (i := 0) (l := l) (s := (j : Int)) (kt := 57) (et := 90) (ik := .i8) (by kernel_rfl) (by kernel_rfl) rfl (by kernel_rfl) (by kernel_rfl) (by kernel_rfl) ?_; rcases hq : lkM l (j : Int) with _ | pv <;> simp only [Option.isSome_none, Option.isSome_some, Option.getD_none, Option.getD_some]) | ((with_reducible refine call_wi (f := 74) ?_ ?_ ?_ ?_ ?_ ?_ ?_ ?_); rotate_left 4; (· first | omega | decide); (· first | rfl | simp; done); (· refine setBB_ok _ ?_ <;> omega)) | ((with_reducible refine call_fr (calcN_ok (nbK l k)) [1] ?_ ?_ ?_ ?_); (· kernel_rfl); (· exact ⟨by kernel_rfl, trivial⟩); (· kernel_rfl); intro xx hx; simp -implicitDefEqProofs only [fixL_eq, setAll_cons, setAll_nil, setAll_nil2, List.map_cons, List.map_nil, rn_cells, rn_ro, rn_any, rn_obj, boardL_map, mvL_map, psL_map, map_ints, List.set_cons_zero, List.set_cons_succ, List.length_cons, List.length_nil, List.drop_succ_cons, List.drop_zero, List.drop_nil, List.append_nil, List.nil_append, List.cons_append, rl_tuple, rl_int, rl_bool, rl_string, rl_ptr, rl_ptr0, rl_slice, rl_slice0, rl_agg, List.map_toArray, Array.map_empty, List.length_append, Nat.zero_add, Nat.reduceAdd, sig, Nat.reduceLT, Nat.reduceSub, ↓reduceIte, List.getElem?_cons_zero, List.getElem?_cons_succ, List.getElem?_nil, Nat.reduceAdd, Nat.add_zero, Nat.sub_self]) | with_reducible refine seq_k fun K hK => ?_ | (with_reducible refine hK _ _ ?_; clear hK) | ((with_reducible first | refine gd_dec ?_ ?_ | refine gd_ndec ?_ ?_ | refine qC_dec ?_ ?_ | refine qC_ndec ?_ ?_ | refine piC_dec ?_ ?_ | refine piC_ndec ?_ ?_ | refine zC_dec ?_ ?_ | refine zC_ndec ?_ ?_ | refine zD_dec ?_ ?_ | refine yC_dec ?_ ?_ | refine yC_ndec ?_ ?_ | refine if_dec ?_ ?_ | refine if_ndec ?_ ?_) <;> intro hh) | simp -implicitDefEqProofs (disch := first | omega | assumption) only [go_sem, ↓reduceIte, Nat.reduceEqDiff, Int.reduceEq, Nat.reduceAdd, Nat.reduceSub, Nat.reduceMul, Nat.mul_one, Nat.one_mul, List.length_nil, List.length_cons, List.nil_append, List.cons_append, List.length_append, List.set_cons_zero, List.set_cons_succ, Nat.zero_add, Nat.sub_zero, Option.isNone_none, Option.isNone_some, Int.toNat_natCast, Nat.add_sub_cancel_left, Bool.not_true, Bool.not_false, BitVec.reduceOfInt, Int.reduceToNat, zb_bd] | ((with_reducible first | refine gd_bool ?_ ?_ | refine if_bool ?_ ?_ | refine qC_bool ?_ ?_ | refine piC_bool ?_ ?_ | refine zC_bool ?_ ?_ | refine zD_bool ?_ ?_ | refine yC_bool ?_ ?_) <;> intro hh) | clear hK)
  all_goals first
    | exact Nat.zero_le _
    | (exact VS.sub2 (by simp [Fr.sub, Fr.get, bbL]) rfl)
    | (have hkk : k = 12 := by omega
       subst hkk; exact ⟨(), trivial, trivial, rfl⟩)
    | (refine ⟨j + 1, by omega, by omega, VS.sub2 ?_ rfl⟩
       first
         | (rw [bbL_n1 (by rw [hq]; rfl)]; simp [Fr.sub, Fr.get]; done)
         | (rw [bbL_y (by rw [hq]; rfl) (by rw [hq]; assumption)]; simp [Fr.sub, Fr.get]; done)
         | (rw [bbL_n2 (by rw [hq]; assumption)]; simp [Fr.sub, Fr.get]; done))
    | (have hjj : j = 64 := by omega
       subst hjj
       exact ⟨k + 1, by omega, by omega, VS.sub2 (by simp [Fr.sub, Fr.get]) rfl⟩)
end Go.Tb
end
section
namespace Go.Tb
open Go Go.Proofs
variable {z : Nat × Nat}
set_option maxRecDepth 20000
def brdL (c : Nat → Int) : Nat → List (Int × Int)
  | 0 => []
  | n + 1 => brdL c n ++ if 0 < c n then [((n : Int), c n)] else []
theorem brdL_y {c : Nat → Int} {n : Nat} (h : 0 < c n) : brdL c (n + 1) = brdL c n ++ [((n : Int), c n)] := by rw [brdL, if_pos h]
theorem brdL_n {c : Nat → Int} {n : Nat} (h : ¬ 0 < c n) : brdL c (n + 1) = brdL c n := by rw [brdL, if_neg h, List.append_nil]
theorem lkM_app (l m : List (Int × Int)) (s : Int) : lkM (l ++ m) s = (lkM l s).or (lkM m s) := by
  unfold lkM; rw [List.find?_append]
  cases l.find? (fun p => decide (p.1 = s)) <;> rfl
theorem lkM_brd (c : Nat → Int) : ∀ (n s : Nat), lkM (brdL c n) s = if s < n ∧ 0 < c s then some (c s) else none
  | 0, s => by simp [brdL, lkM]
  | n + 1, s => by
    by_cases h : 0 < c n
    · rw [brdL_y h, lkM_app, lkM_brd c n s]
      by_cases hs : s < n ∧ 0 < c s
      · rw [if_pos hs, if_pos ⟨by omega, hs.2⟩]; rfl
      · rw [if_neg hs]
        by_cases he : s = n
        · subst he; rw [if_pos ⟨by omega, h⟩]; simp [lkM]
        · rw [if_neg (fun h2 => hs ⟨by omega, h2.2⟩)]
          simp [lkM]; omega
    · rw [brdL_n h, lkM_brd c n s]
      by_cases hs : s < n ∧ 0 < c s
      · rw [if_pos hs, if_pos ⟨by omega, hs.2⟩]
      · rw [if_neg hs]
        refine (if_neg fun h2 => hs ⟨?_, h2.2⟩).symm
        rcases Nat.lt_or_ge s n with h3 | h3
        · exact h3
        · have : s = n := by omega
          subst this; exact absurd h2.2 h
theorem lkM_new (c : Nat → Int) (n : Nat) : lkM (brdL c n) n = none := by rw [lkM_brd, if_neg (by omega)]
set_option maxHeartbeats 4000000 in
theorem board_ok (c : Nat → Int) (hb : Bd c) : FnM (Tz z) 37 [.agg (ints .i64 64 c).toArray] [] (fun _ : Unit => True) (fun _ => .pointer (some ⟨102, 0, none⟩)) (fun _ => [.cells (ints .i64 64 c) 22, .obj (mapO (brdL c 64)), .cells (boardL (calcN (nbK (brdL c 64) 12))) 110]) := by
  refine ⟨?_, ?_, fun _ _ o ho => ?_, start [0, 1, 2, 3, 4, 5, 7, 8, 9, 17, 20] Tryz.func37 rfl (by decide) rfl (by kernel_rfl) (by simp [Tryz.f37]) ?_⟩
  · intro u hu
    simp only [List.mem_cons, List.not_mem_nil, or_false] at hu; subst hu
    exact (Pl.agg (ints_pl _ _ _)).wf _
  · intro o ho; cases ho
  · simp at ho; rcases ho with rfl | rfl | rfl <;> rfl
  simp only [Tryz.f37]
  repeat' (first | with_reducible refine loop (c := Code.seq (Code.region 3 _ _) _) (V := [0, 1, 2, 3, 4, 5, 7, 8, 9, 17, 20]) (fun k : Nat => ([(3, .map (some 101)), (7, .agg (ints .i64 64 c).toArray), (8, .int .i64 k)], [.cells (ints .i64 64 c) 22, .obj (mapO (brdL c k))])) (fun k => k ≤ 64) (fun k => 64 - k) 0 (by kernel_rfl) ?_ ?_ (fun k hk => (fun hck => ?_) (hb k)) | (have hck1 := hck (by omega); clear hck) | with_reducible refine mk_ops ?_ | with_reducible refine mu_ops (X := Tz z) (i := 1) (l := brdL c k) (s := (k : Int)) (p := c k) (kt := 57) (et := 90) (ik := .i8) (by kernel_rfl) (by kernel_rfl) (by kernel_rfl) rfl (by kernel_rfl) (by kernel_rfl) (lkM_new c k) ?_ | ((with_reducible refine call_fr (newBoard_ok (brdL c k)) [1] ?_ ?_ ?_ ?_); (· kernel_rfl); (· exact ⟨by kernel_rfl, trivial⟩); (· kernel_rfl); intro xx hx; simp -implicitDefEqProofs only [fixL_eq, setAll_cons, setAll_nil, setAll_nil2, List.map_cons, List.map_nil, rn_cells, rn_ro, rn_any, rn_obj, boardL_map, mvL_map, psL_map, map_ints, List.set_cons_zero, List.set_cons_succ, List.length_cons, List.length_nil, List.drop_succ_cons, List.drop_zero, List.drop_nil, List.append_nil, List.nil_append, List.cons_append, rl_tuple, rl_int, rl_bool, rl_string, rl_ptr, rl_ptr0, rl_slice, rl_slice0, rl_agg, List.map_toArray, Array.map_empty, List.length_append, Nat.zero_add, Nat.reduceAdd, sig, Nat.reduceLT, Nat.reduceSub, ↓reduceIte, List.getElem?_cons_zero, List.getElem?_cons_succ, List.getElem?_nil, Nat.reduceAdd, Nat.add_zero, Nat.sub_self]) | with_reducible refine seq_k fun K hK => ?_ | (with_reducible refine hK _ _ ?_; clear hK) | ((with_reducible first | refine gd_dec ?_ ?_ | refine gd_ndec ?_ ?_ | refine qC_dec ?_ ?_ | refine qC_ndec ?_ ?_ | refine piC_dec ?_ ?_ | refine piC_ndec ?_ ?_ | refine zC_dec ?_ ?_ | refine zC_ndec ?_ ?_ | refine zD_dec ?_ ?_ | refine yC_dec ?_ ?_ | refine yC_ndec ?_ ?_ | refine if_dec ?_ ?_ | refine if_ndec ?_ ?_) <;> intro hh) | simp -implicitDefEqProofs (disch := first | omega | assumption) only [go_sem, ↓reduceIte, Nat.reduceEqDiff, Int.reduceEq, Nat.reduceAdd, Nat.reduceSub, Nat.reduceMul, Nat.mul_one, Nat.one_mul, List.length_nil, List.length_cons, List.nil_append, List.cons_append, List.length_append, List.set_cons_zero, List.set_cons_succ, Nat.zero_add, Nat.sub_zero, Option.isNone_none, Option.isNone_some, Int.toNat_natCast, Nat.add_sub_cancel_left, Bool.not_true, Bool.not_false, BitVec.reduceOfInt, Int.reduceToNat, ] | ((with_reducible first | refine gd_bool ?_ ?_ | refine if_bool ?_ ?_ | refine qC_bool ?_ ?_ | refine piC_bool ?_ ?_ | refine zC_bool ?_ ?_ | refine zD_bool ?_ ?_ | refine yC_bool ?_ ?_) <;> intro hh) | clear hK)
  all_goals first
    | exact Nat.zero_le _
    | (exact VS.sub2 (by simp [Fr.sub, Fr.get]) rfl)
    | (have hkk : k = 64 := by omega
       subst hkk; exact ⟨(), trivial, trivial, rfl⟩)
    | (refine ⟨k + 1, by omega, by omega, VS.sub2 ?_ ?_⟩
       · simp [Fr.sub, Fr.get]
       · rw [brdL_y (by assumption)])
    | (refine ⟨k + 1, by omega, by omega, VS.sub2 ?_ ?_⟩
       · simp [Fr.sub, Fr.get]
       · rw [brdL_n (by assumption)])
end Go.Tb
end
section
namespace Go.Tb
open Go Go.Proofs
variable {z : Nat × Nat}
set_option maxRecDepth 20000
theorem ps_lit (b : Nat) (cr : ByteArray) (h m t e : Int) (k : Bool) : ([.pointer (some ⟨b, 0, none⟩), .string cr, .slice none 0 0, .int .i64 h, .int .i64 m, .int .i8 t, .int .i8 e, .bool k] : List Value) = psL b nilS ⟨cr, h, m, t, e, k⟩ := rfl
theorem psL_s1 (b : Nat) (vm : Value) (D : Pd) (x : ByteArray) : (psL b vm D).set 1 (.string x) = psL b vm { D with cr := x } := rfl
theorem psL_s3 (b : Nat) (vm : Value) (D : Pd) (x : Int) : (psL b vm D).set 3 (.int .i64 x) = psL b vm { D with half := x } := rfl
theorem psL_s4 (b : Nat) (vm : Value) (D : Pd) (x : Int) : (psL b vm D).set 4 (.int .i64 x) = psL b vm { D with mc := x } := rfl
theorem psL_s6 (b : Nat) (vm : Value) (D : Pd) (x : Int) : (psL b vm D).set 6 (.int .i8 x) = psL b vm { D with ep := x } := rfl
def doorD (t : Int) (cr : ByteArray) (ep half full : Int) (B : Brd) : Pd := ⟨cr, half, full, t, ep, inChk ⟨cr, half, full, t, ep, false⟩ B⟩
set_option maxHeartbeats 4000000 in
theorem door_ok (B : Brd) (t ep half full : Int) (cr : ByteArray) (ht : t = 1 ∨ t = 2) (hw : -1 ≤ B.wks ∧ B.wks ≤ 63) (hb : -1 ≤ B.bks ∧ B.bks ≤ 63) :
    FnM (Tz z) 36 [.pointer (some ⟨100, 0, none⟩), .int .i8 t, .string cr, .int .i8 ep, .int .i64 half, .int .i64 full] [.cells (boardL B) 110] (fun _ : Unit => True) (fun _ => .pointer (some ⟨101, 0, none⟩)) (fun _ => [.cells (boardL B) 110, .cells (psL 100 nilS (doorD t cr ep half full B)) 82]) := by
  refine ⟨?_, ?_, fun _ _ o ho => ?_, start [0, 1, 2, 3, 4, 5, 12, 13] Tryz.func36 rfl (by decide) rfl (by kernel_rfl) (by simp [Tryz.f36]) ?_⟩
  · intro u hu
    simp only [List.mem_cons, List.not_mem_nil, or_false] at hu
    rcases hu with rfl | rfl | rfl | rfl | rfl | rfl
    · exact WF_ptrN (by simp)
    · exact wf_int
    · exact wf_str
    · exact wf_int
    · exact wf_int
    · exact wf_int
  · intro o ho
    simp only [List.mem_cons, List.not_mem_nil, or_false] at ho; subst ho
    exact fun u hu => (boardL_pl B u hu).wf _
  · simp at ho; subst ho; rfl
  simp only [Tryz.f36]
  repeat' (first | ((with_reducible refine call_r2 100 (inChk_ok ⟨cr, half, full, t, ep, false⟩ B ht hw hb) ?_ ?_ ?_ ?_ ?_ ?_); (· first | omega | decide); (· first | rfl | assumption | simp; done); (· first | omega | decide); (· first | rfl | assumption | simp; done); (· first | omega | decide)) | ((with_reducible refine qG_r2 100 (inChk_ok ⟨cr, half, full, t, ep, false⟩ B ht hw hb) ?_ ?_ ?_ ?_ ?_ ?_); (· first | omega | decide); (· first | rfl | assumption | simp; done); (· first | omega | decide); (· first | rfl | assumption | simp; done); (· first | omega | decide)) | ((with_reducible refine zG_r2 100 (inChk_ok ⟨cr, half, full, t, ep, false⟩ B ht hw hb) ?_ ?_ ?_ ?_ ?_ ?_); (· first | omega | decide); (· first | rfl | assumption | simp; done); (· first | omega | decide); (· first | rfl | assumption | simp; done); (· first | omega | decide)) | with_reducible refine seq_k fun K hK => ?_ | (with_reducible refine hK _ _ ?_; clear hK) | ((with_reducible first | refine gd_dec ?_ ?_ | refine gd_ndec ?_ ?_ | refine qC_dec ?_ ?_ | refine qC_ndec ?_ ?_ | refine piC_dec ?_ ?_ | refine piC_ndec ?_ ?_ | refine zC_dec ?_ ?_ | refine zC_ndec ?_ ?_ | refine zD_dec ?_ ?_ | refine yC_dec ?_ ?_ | refine yC_ndec ?_ ?_ | refine if_dec ?_ ?_ | refine if_ndec ?_ ?_) <;> intro hh) | simp -implicitDefEqProofs (disch := first | omega | assumption) only [go_sem, ↓reduceIte, Nat.reduceEqDiff, Int.reduceEq, Nat.reduceAdd, Nat.reduceSub, Nat.reduceMul, Nat.mul_one, Nat.one_mul, List.length_nil, List.length_cons, List.nil_append, List.cons_append, List.length_append, List.set_cons_zero, List.set_cons_succ, Nat.zero_add, Nat.sub_zero, Option.isNone_none, Option.isNone_some, Int.toNat_natCast, Nat.add_sub_cancel_left, Bool.not_true, Bool.not_false, BitVec.reduceOfInt, Int.reduceToNat, ps_lit, psL_s1, psL_s3, psL_s4, psL_s6] | ((with_reducible first | refine gd_bool ?_ ?_ | refine if_bool ?_ ?_ | refine qC_bool ?_ ?_ | refine piC_bool ?_ ?_ | refine zC_bool ?_ ?_ | refine zD_bool ?_ ?_ | refine yC_bool ?_ ?_) <;> intro hh) | clear hK)
  exact ⟨(), trivial, trivial, rfl⟩
end Go.Tb
end
section
namespace Go.Tb
open Go Go.Proofs
variable {z : Nat × Nat}
set_option maxRecDepth 20000
def kqC : Nat → UInt8
  | 0 => 75 | 1 => 81 | 2 => 107 | _ => 113
def crs (x : Int) : Nat → List UInt8
  | 0 => []
  | k + 1 => crs x k ++ if bitI x k = 1 then [kqC k] else []
def crT (x : Int) : List UInt8 := if crs x 4 = [] then [45] else crs x 4
theorem crs_y {x : Int} {k : Nat} (h : bitI x k = 1) : crs x (k + 1) = crs x k ++ [kqC k] := by rw [crs, if_pos h]
theorem crs_n {x : Int} {k : Nat} (h : ¬ bitI x k = 1) : crs x (k + 1) = crs x k := by rw [crs, if_neg h, List.append_nil]
theorem crT_y {x : Int} (h : crs x 4 = []) : crT x = [45] := if_pos h
theorem crT_n {x : Int} (h : ¬ crs x 4 = []) : crT x = crs x 4 := if_neg h
theorem crs_len (x : Int) : ∀ k, (crs x k).length ≤ k
  | 0 => Nat.le_refl 0
  | k + 1 => by
    have := crs_len x k
    rw [crs, List.length_append]; split <;> simp <;> omega
theorem byt_app (l m : List UInt8) : byt l ++ byt m = byt (l ++ m) := by
  apply ByteArray.ext
  simp [byt]
theorem kq_get {k : Nat} (h : k < 4) : ([.string (byt [75]), .string (byt [81]), .string (byt [107]), .string (byt [113])] : List Value)[k]? = some (.string (byt [kqC k])) := by
  have : k = 0 ∨ k = 1 ∨ k = 2 ∨ k = 3 := by omega
  rcases this with rfl | rfl | rfl | rfl <;> rfl
theorem lastK_bd (p : Nat → Bool) : ∀ n : Nat, n ≤ 64 → -1 ≤ lastK p n ∧ lastK p n ≤ 63
  | 0, _ => by simp [lastK]
  | n + 1, h => by
    have := lastK_bd p n (by omega)
    rw [lastK]; split <;> omega
def brdC (c : Nat → Int) : Brd := calcN (nbK (brdL c 64) 12)
def posC (c : Nat → Int) : Pd := doorD (c 64 + 1) (byt (crT (c 65))) (c 66) (c 67) (c 68) (brdC c)
theorem brdC_kings (c : Nat → Int) : (-1 ≤ (brdC c).wks ∧ (brdC c).wks ≤ 63) ∧ (-1 ≤ (brdC c).bks ∧ (brdC c).bks ≤ 63) := by
  exact ⟨lastK_bd (fun k => occB (nbK (brdL c 64) 12).wk k) 64 (by decide), lastK_bd (fun k => !occB (nbK (brdL c 64) 12).wk k && occB (nbK (brdL c 64) 12).bk k) 64 (by decide)⟩
theorem sadd {P : Program} {t : TypeId} {l : List UInt8} {b : UInt8} (h : l.length ≤ 1000) : binV P .add t (.string (byt l)) (.string (byt [b])) = some (.string (byt (l ++ [b]))) := by
  rw [← byt_app]
  show binS .add (byt l) (byt [b]) = _
  unfold binS
  exact if_pos (by rw [bs_size, bs_size]; simp; omega)
theorem sub64 (c : Nat → Int) : sub (ints .i64 69 c) 0 64 = some (ints .i64 64 c) := rfl
attribute [local irreducible] band bshr crs crT bitI byt brdC in
set_option maxHeartbeats 4000000 in
theorem position_ok (c : Nat → Int) (hb : Bd c) (h64 : 0 ≤ c 64 ∧ c 64 ≤ 1) (h65 : 0 ≤ c 65 ∧ c 65 ≤ 15) (h66 : -1 ≤ c 66 ∧ c 66 ≤ 63) (h67 : 0 ≤ c 67) (h68 : 0 ≤ c 68) :
    FnM (Tz z) 18 [posV c] [] (fun _ : Unit => True) (fun _ => .pointer (some ⟨105, 0, none⟩)) (fun _ => [.cells (ints .i64 69 c) 24, .cells [.string (byt [75]), .string (byt [81]), .string (byt [107]), .string (byt [113])] 9, .cells (ints .i64 64 c) 22, .obj (mapO (brdL c 64)), .cells (boardL (brdC c)) 110, .cells (psL 104 nilS (posC c)) 82]) := by
  have hkg := brdC_kings c
  refine ⟨?_, ?_, fun _ _ o ho => ?_, start [0, 1, 2, 3, 4, 5, 6, 9, 10, 11, 12, 13, 22, 28, 66] Tryz.func18 rfl (by decide) rfl (by kernel_rfl) (by simp [Tryz.f18]) ?_⟩
  · intro u hu
    simp only [List.mem_cons, List.not_mem_nil, or_false] at hu; subst hu
    exact (posV_pl c).wf _
  · intro o ho; cases ho
  · simp at ho; rcases ho with rfl | rfl | rfl | rfl | rfl | rfl <;> rfl
  simp only [Tryz.f18]
  unfold posV
  repeat' (first | (with_reducible first | refine seq_i (a := Code.seq (Code.region 2 _ _) _) [(1, .pointer (some ⟨100, 0, none⟩)), (3, .int .i8 (c 64 + 1)), (4, .string (byt []))] [.cells (ints .i64 69 c) 24] ?_ (fun K hJ => ?_) | refine seq_i (a := Code.seq (Code.region 10 _ _) _) [(1, .pointer (some ⟨100, 0, none⟩)), (3, .int .i8 (c 64 + 1)), (4, .string (byt (crT (c 65))))] [.cells (ints .i64 69 c) 24, .cells [.string (byt [75]), .string (byt [81]), .string (byt [107]), .string (byt [113])] 9] ?_ (fun K hJ => ?_) | refine loop (c := Code.seq (Code.region 5 _ _) _) (V := [0, 1, 2, 3, 4, 5, 6, 9, 10, 11, 12, 13, 22, 28, 66]) (fun k : Nat => ([(1, .pointer (some ⟨100, 0, none⟩)), (3, .int .i8 (c 64 + 1)), (4, .string (byt (crs (c 65) k))), (10, .slice (some ⟨101, 0, none⟩) 4 4), (11, .int .i64 4), (12, .int .i64 k)], [.cells (ints .i64 69 c) 24, .cells [.string (byt [75]), .string (byt [81]), .string (byt [107]), .string (byt [113])] 9])) (fun k => k ≤ 4) (fun k => 4 - k) 0 (by kernel_rfl) ?_ ?_ (fun k hk => (fun hcl => ?_) (crs_len (c 65) k))) | (with_reducible refine hJ _ _ ?_; clear hJ) | (with_reducible first | refine draw2 (id := 14) [(0, .q), (1, .r), (3, .q), (4, .q), (5, .q), (6, .r), (7, .q), (8, .q), (9, .r), (10, .q), (11, .r), (2, .e [11, 9, 6]), (12, .e []), (13, .q)] (by kernel_rfl) (by kernel_rfl) ?_ | refine draw (by kernel_rfl) (by kernel_rfl) ?_ | apply pz_e | apply pz_eg | apply py_e) | ((with_reducible apply pi_e); (· rfl); (· rfl)) | ((with_reducible refine piE_fr (board_ok c hb) [] ?_ ?_ ?_ ?_); (· kernel_rfl); (· exact trivial); (· kernel_rfl); intro xx hx; simp -implicitDefEqProofs only [fixL_eq, setAll_cons, setAll_nil, setAll_nil2, List.map_cons, List.map_nil, rn_cells, rn_ro, rn_any, rn_obj, boardL_map, mvL_map, psL_map, map_ints, List.set_cons_zero, List.set_cons_succ, List.length_cons, List.length_nil, List.drop_succ_cons, List.drop_zero, List.drop_nil, List.append_nil, List.nil_append, List.cons_append, rl_tuple, rl_int, rl_bool, rl_string, rl_ptr, rl_ptr0, rl_slice, rl_slice0, rl_agg, List.map_toArray, Array.map_empty, List.length_append, Nat.zero_add, Nat.reduceAdd, sig, Nat.reduceLT, Nat.reduceSub, ↓reduceIte, List.getElem?_cons_zero, List.getElem?_cons_succ, List.getElem?_nil, Nat.reduceAdd, Nat.add_zero, Nat.sub_self]) | ((with_reducible refine piE_fr (door_ok (brdC c) (c 64 + 1) (c 66) (c 67) (c 68) (byt (crT (c 65))) (by omega) hkg.1 hkg.2) [4] ?_ ?_ ?_ ?_); (· kernel_rfl); (· exact ⟨by kernel_rfl, trivial⟩); (· kernel_rfl); intro xx hx; simp -implicitDefEqProofs only [fixL_eq, setAll_cons, setAll_nil, setAll_nil2, List.map_cons, List.map_nil, rn_cells, rn_ro, rn_any, rn_obj, boardL_map, mvL_map, psL_map, map_ints, List.set_cons_zero, List.set_cons_succ, List.length_cons, List.length_nil, List.drop_succ_cons, List.drop_zero, List.drop_nil, List.append_nil, List.nil_append, List.cons_append, rl_tuple, rl_int, rl_bool, rl_string, rl_ptr, rl_ptr0, rl_slice, rl_slice0, rl_agg, List.map_toArray, Array.map_empty, List.length_append, Nat.zero_add, Nat.reduceAdd, sig, Nat.reduceLT, Nat.reduceSub, ↓reduceIte, List.getElem?_cons_zero, List.getElem?_cons_succ, List.getElem?_nil, Nat.reduceAdd, Nat.add_zero, Nat.sub_self]) | ((with_reducible refine And.intro ?_ ?_); (· (simp -implicitDefEqProofs (disch := first | omega | assumption) only [chk_nil, chk_cons, pend_nil, pend_cons, obl_q, onQ_v, and_true, sub_ints, go_sem, ↓reduceIte, Nat.reduceEqDiff, Int.reduceEq, Nat.reduceAdd, Nat.reduceSub, List.length_nil, List.length_cons, List.nil_append, List.cons_append, Nat.zero_add, Nat.sub_zero]; done))) | with_reducible refine seq_k fun K hK => ?_ | (with_reducible refine hK _ _ ?_; clear hK) | ((with_reducible first | refine gd_dec ?_ ?_ | refine gd_ndec ?_ ?_ | refine qC_dec ?_ ?_ | refine qC_ndec ?_ ?_ | refine piC_dec ?_ ?_ | refine piC_ndec ?_ ?_ | refine zC_dec ?_ ?_ | refine zC_ndec ?_ ?_ | refine zD_dec ?_ ?_ | refine yC_dec ?_ ?_ | refine yC_ndec ?_ ?_ | refine if_dec ?_ ?_ | refine if_ndec ?_ ?_) <;> intro hh) | simp -implicitDefEqProofs (disch := first | omega | assumption) only [go_sem, ↓reduceIte, Nat.reduceEqDiff, Int.reduceEq, Nat.reduceAdd, Nat.reduceSub, Nat.reduceMul, Nat.mul_one, Nat.one_mul, List.length_nil, List.length_cons, List.nil_append, List.cons_append, List.length_append, List.set_cons_zero, List.set_cons_succ, Nat.zero_add, Nat.sub_zero, Option.isNone_none, Option.isNone_some, Int.toNat_natCast, Nat.add_sub_cancel_left, Bool.not_true, Bool.not_false, BitVec.reduceOfInt, Int.reduceToNat, lit0, litK, litQ, litk, litq, litd, kq_get, sadd, sub64, bs_size, bs_toList, beq_nil, sub_ints, decT, decF, pickV_T, pickV_F] | ((with_reducible first | refine gd_bool ?_ ?_ | refine if_bool ?_ ?_ | refine qC_bool ?_ ?_ | refine piC_bool ?_ ?_ | refine zC_bool ?_ ?_ | refine zD_bool ?_ ?_ | refine yC_bool ?_ ?_) <;> intro hh) | clear hK)
  all_goals first
    | exact Nat.zero_le _
    | exact ⟨(), trivial, trivial, rfl⟩
    | (have hkk : k = 4 := by omega
       subst hkk
       refine VS.sub2 ?_ rfl
       have e : crT (c 65) = [45] := crT_y (by assumption)
       simp [Fr.sub, Fr.get, e]; done)
    | (have hkk : k = 4 := by omega
       subst hkk
       refine VS.sub2 ?_ rfl
       have e : crT (c 65) = crs (c 65) 4 := crT_n (by assumption)
       simp [Fr.sub, Fr.get, e]; done)
    | (refine VS.sub2 ?_ rfl
       have e : c 64 = 1 := by omega
       simp [Fr.sub, Fr.get, e]; done)
    | (refine VS.sub2 ?_ rfl
       have e : c 64 = 0 := by omega
       simp [Fr.sub, Fr.get, e]; done)
    | (refine ⟨k + 1, by omega, by omega, VS.sub2 ?_ rfl⟩
       rw [crs_y (by rw [← bit_eq h65 (by omega)]; assumption)]
       simp [Fr.sub, Fr.get]; done)
    | (refine ⟨k + 1, by omega, by omega, VS.sub2 ?_ rfl⟩
       rw [crs_n (by rw [← bit_eq h65 (by omega)]; assumption)]
       simp [Fr.sub, Fr.get]; done)
    | (exact VS.sub2 (by simp [Fr.sub, Fr.get, crs]) rfl)
end Go.Tb
end
section
namespace Go.Tb
open Go Go.Proofs
variable {z : Nat × Nat}
set_option maxRecDepth 20000
def stC (c : Nat → Int) : PSt := (crT (c 65), posC c, brdC c)
structure PosIn (c : Nat → Int) : Prop where
  bd : Bd c
  turn : 0 ≤ c 64 ∧ c 64 ≤ 1
  cast : 0 ≤ c 65 ∧ c 65 ≤ 15
  ep : -1 ≤ c 66 ∧ c 66 ≤ 63
  half : 0 ≤ c 67
  full : 0 ≤ c 68
theorem wr_o1 {a : Value} {T : TypeId} {L : List AO} {i : Nat} {k : IntKind} {n : Int} : wrC (some (.cells [a] T)) L i 1 0 [.int k n] = some (L.set i (.cells [.int k n] T)) := (wrC_int (by simp)).trans rfl
theorem wr_o1b {a : Value} {T : TypeId} {L : List AO} {i : Nat} {n : Bool} : wrC (some (.cells [a] T)) L i 1 0 [.bool n] = some (L.set i (.cells [.bool n] T)) := (wrC_bool (by simp)).trans rfl
end Go.Tb
end
