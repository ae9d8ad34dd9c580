/-
  A part of the proof (my own): of the texts that the claim's last text rests on: parts P18, M, N, L3, M1, M2, M3.
-/
import Derived.Recover
import Derived.Test.YtigjokkakcmmdaaGreatDoorT25
import Derived.Test.YtigjokkakcmmdaaGreatDoorT09
import Derived.Test.YtigjokkakcmmdaaGreatDoorT07
import Derived.Test.YtigjokkakcmmdaaGreatDoorT12
import Derived.Test.YtigjokkakcmmdaaGreatDoorT15
import Derived.Test.YtigjokkakcmmdaaGreatDoorT20
set_option linter.unusedSimpArgs false
set_option linter.unusedVariables false
section
namespace Go.Tb
open Go Go.Proofs
set_option maxRecDepth 20000
attribute [local irreducible] tg4 madeC updB attB inChk
theorem idx_mem (l : List UInt8) (b : UInt8) : 0 ≤ idxL l b ↔ b ∈ l := by
  constructor
  · intro h
    obtain ⟨h1, h2, _⟩ := idxL_at h
    rw [← h2]
    unfold bAt
    rw [List.getD_eq_getElem?_getD, List.getElem?_eq_getElem h1]
    exact List.getElem_mem h1
  · intro h
    rcases Int.lt_or_le (idxL l b) 0 with h1 | h1
    · exact absurd rfl (idxL_no h1 b h)
    · exact h1
theorem crA_mem {a : Bool} {l : List UInt8} {b x : UInt8} : x ∈ crA a l b ↔ x ∈ l ∧ ¬ (a = true ∧ x = b) := by
  unfold crA
  cases a
  · simp
  · simp [delL]
def rL (r : Nat) : UInt8 := if r = 0 then 75 else if r = 1 then 81 else if r = 2 then 107 else 113
theorem can_iff {l : List UInt8} {r : Nat} (h : r < 4) : canB l (((r / 2 : Nat) : Int) + 1) (((r % 2 : Nat) : Int) + 1) = true ↔ rL r ∈ l := by
  have e : ccB (((r / 2 : Nat) : Int) + 1) (((r % 2 : Nat) : Int) + 1) = rL r := by
    have hr4 : r = 0 ∨ r = 1 ∨ r = 2 ∨ r = 3 := by omega
    rcases hr4 with rfl | rfl | rfl | rfl <;> rfl
  unfold canB
  rw [decide_eq_true_eq, e, idx_mem]
theorem crUp_mem {l : List UInt8} {B : Brd} {M : Mv} {r : Nat} (h : r < 4) : rL r ∈ crUp l B M ↔ rL r ∈ l ∧ hitA (pieceAt B M.s1) (1 + 6 * ((r / 2 : Nat) : Int)) M.s1 M.s2 (casR r) = false := by
  have h4 : rL r ∈ cr4 l B M ↔ rL r ∈ l ∧ hitA (pieceAt B M.s1) (1 + 6 * ((r / 2 : Nat) : Int)) M.s1 M.s2 (casR r) = false := by
    unfold cr4 cr3 cr2 cr1
    rw [crA_mem, crA_mem, crA_mem, crA_mem]
    have hr4 : r = 0 ∨ r = 1 ∨ r = 2 ∨ r = 3 := by omega
    rcases hr4 with rfl | rfl | rfl | rfl
    · simp [rL, casR]
    · simp [rL, casR]
    · simp [rL, casR]
    · simp [rL, casR]
  unfold crUp
  by_cases hn : cr4 l B M = []
  · rw [if_pos hn, ← h4, hn]
    have hr4 : r = 0 ∨ r = 1 ∨ r = 2 ∨ r = 3 := by omega
    rcases hr4 with rfl | rfl | rfl | rfl <;> decide
  · rw [if_neg hn, h4]
theorem crUp_len' {l : List UInt8} {B : Brd} {M : Mv} (h : l.length ≤ 1000) : (crUp l B M).length ≤ 1000 := by
  unfold crUp
  split
  · decide
  · exact cr4_len (cr3_len (cr2_len (cr1_len h)))
theorem mkR1 {s : Nat} (hs : s < 64) : occB 71776119061217280#64 s = decide (s / 8 = 1) := (by decide +kernel : ∀ s : Fin 64, occB 71776119061217280#64 s.val = decide (s.val / 8 = 1)) ⟨s, hs⟩
theorem mkR3 {s : Nat} (hs : s < 64) : occB 1095216660480#64 s = decide (s / 8 = 3) := (by decide +kernel : ∀ s : Fin 64, occB 1095216660480#64 s.val = decide (s.val / 8 = 3)) ⟨s, hs⟩
theorem mkR6 {s : Nat} (hs : s < 64) : occB 65280#64 s = decide (s / 8 = 6) := (by decide +kernel : ∀ s : Fin 64, occB 65280#64 s.val = decide (s.val / 8 = 6)) ⟨s, hs⟩
theorem mkR4 {s : Nat} (hs : s < 64) : occB 4278190080#64 s = decide (s / 8 = 4) := (by decide +kernel : ∀ s : Fin 64, occB 4278190080#64 s.val = decide (s.val / 8 = 4)) ⟨s, hs⟩
theorem sq_and (m : BitVec 64) {s : Nat} (hs : s < 64) : (!decide (sqB (s : Int) &&& m = 0#64)) = occB m s := by
  rw [BitVec.and_comm, and_sq (by omega), Bool.not_not]
section
variable {c : Nat → Int} {s : PSt} {M : Mv}
theorem epW_iff {D : Pd} {f t : Nat} (hf : f < 64) (ht : t < 64) (h1 : M.s1 = f) (h2 : M.s2 = t) : epW D M = true ↔ D.turn = 1 ∧ f / 8 = 1 ∧ t / 8 = 3 := by
  unfold epW
  rw [h1, h2, sq_and _ hf, sq_and _ ht, mkR1 hf, mkR3 ht, Bool.and_eq_true, Bool.and_eq_true, decide_eq_true_eq, decide_eq_true_eq, decide_eq_true_eq, and_assoc]
theorem epBl_iff {D : Pd} {f t : Nat} (hf : f < 64) (ht : t < 64) (h1 : M.s1 = f) (h2 : M.s2 = t) : epBl D M = true ↔ D.turn = 2 ∧ f / 8 = 6 ∧ t / 8 = 4 := by
  unfold epBl
  rw [h1, h2, sq_and _ hf, sq_and _ ht, mkR6 hf, mkR4 ht, Bool.and_eq_true, Bool.and_eq_true, decide_eq_true_eq, decide_eq_true_eq, decide_eq_true_eq, and_assoc]
theorem ep_step (hs : RepS c s) (hi : InvC c) (hk : KindM c (toM M)) : epUp s.2.1 M s.2.2 = madeM c (toM M) 66 := by
  have h64 := hi.turn
  have hT := hs.d.turn
  have hu : (c 64 = 0 ∧ upOf (c 64) = 1) ∨ (c 64 = 1 ∧ upOf (c 64) = -1) := by unfold upOf; omega
  have e66 : madeM c (toM M) 66 = mdEp c M.s1 M.s2 := by unfold madeM; rw [madeC_66]; rfl
  rw [e66]
  unfold epUp mdEp
  have body : ∀ f t : Nat, MvB c f t → M.s1 = f → M.s2 = t → (kindOf (c f) = 6 → ((t : Int) / 8 = (f : Int) / 8 + upOf (c 64)) ∨ ((t : Int) = f + 16 * upOf (c 64) ∧ (f : Int) / 8 = 1 + 5 * c 64)) → (if pTyp (pieceAt s.2.2 M.s1) = 6 then (if epW s.2.1 M = true then M.s2 - 8 else if epBl s.2.1 M = true then M.s2 + 8 else -1) else -1) = if isJump c M.s1 M.s2 then (M.s1 + M.s2) / 2 else -1 := by
    intro f t hB h1 h2 hp
    have hlf := hB.hf
    have hlt := hB.ht
    rw [h1, pieceAt_rep hs.d.b hi.bd hlf, kind_typ (by have := hi.bd f hlf; omega), h2]
    have hji : isJump c f t ↔ kindOf (c f) = 6 ∧ ((t : Int) = f + 16 ∨ (t : Int) = f - 16) := by unfold isJump; rw [Int.toNat_natCast]
    by_cases h6 : kindOf (c f) = 6
    · rw [if_pos h6]
      rcases hp h6 with hp | ⟨hp1, hp2⟩
      · rw [if_neg (fun e => by have := (epW_iff hlf hlt h1 h2).1 e; omega), if_neg (fun e => by have := (epBl_iff hlf hlt h1 h2).1 e; omega), if_neg]
        rw [hji]; rintro ⟨_, hj⟩; omega
      · rcases hu with ⟨u1, u2⟩ | ⟨u1, u2⟩
        · rw [if_pos ((epW_iff hlf hlt h1 h2).2 (by omega)), if_pos (hji.2 ⟨h6, by omega⟩)]; omega
        · rw [if_neg (fun e => by have := (epW_iff hlf hlt h1 h2).1 e; omega), if_pos ((epBl_iff hlf hlt h1 h2).2 (by omega)), if_pos (hji.2 ⟨h6, by omega⟩)]; omega
    · rw [if_neg h6, if_neg (fun e => h6 (hji.1 e).1)]
  cases hk with
  | n f t h hg hp e1 e2 =>
    refine body f t h.toMvB e1 e2 fun h6 => ?_
    have hpw := hi.pawns f h.hf h6
    unfold tgtP at hg
    rw [if_pos h6] at hg
    rcases hg with ⟨g, _⟩ | ⟨g1, g2, _⟩ | ⟨_, g, _⟩
    · left; omega
    · exact .inr ⟨g1, g2⟩
    · left; unfold rdif at g; omega
  | e f t e h e1 e2 e3 => exact body f t h.toMvB e1 e2 fun _ => .inl h.rk
  | k r h e1 e2 e3 =>
    refine body (casF r) (casT r) (h.toB hi) e1 e2 fun h6 => ?_
    rw [h.king, kind_king (by omega)] at h6; cases h6
theorem can_step (hs : RepS c s) (hi : InvC c) (hk : KindM c (toM M)) {r : Nat} (hr : r < 4) : canB (crUp s.1 s.2.2 M) (((r / 2 : Nat) : Int) + 1) (((r % 2 : Nat) : Int) + 1) = decide (bitI (madeM c (toM M) 65) r = 1) := by
  have h64 := hi.turn
  obtain ⟨f, t, hB, e1, e2, _, _⟩ := hk.off hi
  have e1 : M.s1 = f := e1
  have e2 : M.s2 = t := e2
  have e65 : madeM c (toM M) 65 = leftN (c 65) f t 4 := by unfold madeM; rw [madeC_65]; show leftN (c 65) M.s1 M.s2 4 = _; rw [e1, e2]
  have hb := (left_bit (f := f) (t := t) hi.cast 4 (Nat.le_refl _)).2 r hr
  have hcan := hs.can r hr
  rw [Bool.eq_iff_iff, can_iff hr, crUp_mem hr, e65, decide_eq_true_eq, hb, e1, e2, pieceAt_rep hs.d.b hi.bd hB.hf]
  rw [Bool.eq_iff_iff, can_iff hr, decide_eq_true_eq] at hcan
  rw [hcan]
  refine and_congr_right fun hbit => ?_
  obtain ⟨k1, k2⟩ := right_at hi hr hbit
  obtain ⟨g1, _, g3, _⟩ := cas_facts hr
  have hr2 : (((r / 2 : Nat) : Int) = 0 ∨ ((r / 2 : Nat) : Int) = 1) := by omega
  obtain ⟨k, q1, q2, q3⟩ := hi.king _ hr2
  have hkk : casF r = k := q3 _ g1 k1
  have hcf : c f = 1 + 6 * ((r / 2 : Nat) : Int) ↔ f = casF r := ⟨fun e => by rw [hkk]; exact q3 f hB.hf e, fun e => by rw [e]; exact k1⟩
  have htk : t ≠ casF r := by
    rintro rfl
    have := hB.noking
    rcases hB.tgt with h | h
    · omega
    · have := side_b (n := c (casF r)) (by omega)
      omega
  unfold hitA
  rw [Bool.or_eq_false_iff, Bool.or_eq_false_iff, decide_eq_false_iff_not, decide_eq_false_iff_not, decide_eq_false_iff_not, hcf, hitK_nat hr]
  constructor
  · rintro ⟨⟨a1, a2⟩, a3⟩ ⟨_, h⟩
    omega
  · intro h
    refine ⟨⟨fun e => h ⟨hr, .inl e⟩, fun e => h ⟨hr, .inr (.inl (by omega))⟩⟩, fun e => h ⟨hr, .inr (.inr (.inr (by omega)))⟩⟩
theorem rep_step (hs : RepS c s) (hi : InvC c) (hM : M ∈ allS s) (hd : dbtB c (toM M) = false) : RepS (madeM c (toM M)) (nxt s M) := by
  have h64 := hi.turn
  have hm := all_mok hs hi hM
  have e64 : madeM c (toM M) 64 = 1 - c 64 := by unfold madeM; rw [madeC_64]
  obtain ⟨b1, b2, b8, b16, ht, hg⟩ := hm.tags
  refine ⟨⟨hm.rep, ?_, ep_step hs hi hm.kind⟩, ?_, fun r hr => can_step hs hi hm.kind hr, rfl, crUp_len' hs.len⟩
  · show cOther s.2.1.turn = _
    rw [hs.d.turn, e64]
    rcases (show c 64 = 0 ∨ c 64 = 1 by omega) with h | h <;> rw [h] <;> rfl
  · show tagOn M 16 = _
    rw [tagOn_eq, ht.t16, hg hd, e64]
    unfold givC; congr 1; omega
end
end Go.Tb
end
section
namespace Go.Tb
open Go Go.Proofs
section
variable {ng : Nat} {ρ : Nat → Nat} {L : List AO} {w : World}
theorem sim_setO {b : Nat} {o o' : Obj} (hs : Sim ng ρ L w) (hb : L[b]? = some (.obj o)) : Sim ng ρ (L.set b (.obj o')) (setBlk w (ρ b) o') := by
  have hbl : b < L.length := (List.getElem?_eq_some_iff.1 hb).1
  have hlt := hs.lt b hbl
  have hne : ∀ i, i < L.length → i ≠ b → ρ b ≠ ρ i := fun i hi hib e => hib (hs.inj b i _ hb rfl hi e).symm
  have hget : ∀ i (q : AO), (L.set b (.obj o'))[i]? = some q → (i = b ∧ q = .obj o') ∨ (i ≠ b ∧ L[i]? = some q) := fun i q h => by
    rw [List.getElem?_set] at h
    split at h
    · rename_i e; subst e
      simp only [hbl, if_true, Option.some.injEq] at h
      exact .inl ⟨rfl, h.symm⟩
    · rename_i e; exact .inr ⟨fun e' => e e'.symm, h⟩
  refine ⟨by simpa using hs.ngl, hs.glob, ?_, ?_, ?_, ?_, ?_⟩
  · intro i j q h hw' hj e
    simp only [List.length_set] at hj
    rcases hget i q h with ⟨rfl, rfl⟩ | ⟨hi, h⟩
    · exact hs.inj i j _ hb rfl hj e
    · exact hs.inj i j q h hw' hj e
  · intro i hi
    rw [setBlk_size]
    exact hs.lt i (by simpa using hi)
  · intro i d S h
    simp only [List.length_set]
    rcases hget i _ h with ⟨rfl, e⟩ | ⟨hi, h⟩
    · cases e
    · rw [setBlk_ne (hne i (List.getElem?_eq_some_iff.1 h).1 hi)]
      exact hs.cells i d S h
  · intro i z d h
    simp only [List.length_set]
    rcases hget i _ h with ⟨rfl, e⟩ | ⟨hi, h⟩
    · cases e
    · obtain ⟨h1, h2⟩ := hs.ro i z d h
      refine ⟨fun j v hv => ?_, h2⟩
      rw [World.cell?_of_block (w := w) (a := ⟨ρ i, z + j, none⟩) (setBlk_ne (hne i (List.getElem?_eq_some_iff.1 h).1 hi))]
      exact h1 j v hv
  · intro i d h
    rcases hget i _ h with ⟨rfl, e⟩ | ⟨hi, h⟩
    · cases e; exact setBlk_same hlt
    · rw [setBlk_ne (hne i (List.getElem?_eq_some_iff.1 h).1 hi)]
      exact hs.obj i d h
end
def mapE (l : List (Int × Int)) : Array MapEntry := (l.zipIdx.map fun p => (⟨.int .i8 p.1.1, .int .i8 p.1.2, p.2⟩ : MapEntry)).toArray
def mapO (l : List (Int × Int)) : Obj := .map (mapE l) l.length
theorem mapE_push (l : List (Int × Int)) (s p : Int) : (mapE l).push ⟨.int .i8 s, .int .i8 p, l.length⟩ = mapE (l ++ [(s, p)]) := by
  simp [mapE, List.zipIdx_append]
def lkM (l : List (Int × Int)) (s : Int) : Option Int := (l.find? fun p => decide (p.1 = s)).map (·.2)
theorem findNow_map (k : IntKind) (s : Int) : ∀ (l : List (Int × Int)) (n i : Nat), ∃ r, Instr.findNow (.int k) (.int .i8 s) ((l.zipIdx n).map fun p => (⟨.int .i8 p.1.1, .int .i8 p.1.2, p.2⟩ : MapEntry)) i = some r ∧ r.map (·.2) = (lkM l s).map (.int .i8)
  | [], n, i => ⟨none, rfl, rfl⟩
  | (a, b) :: l, n, i => by
    by_cases h : s = a
    · exact ⟨some (i, .int .i8 b), by simp [Instr.findNow, Instr.sameNow, h], by simp [lkM, h]⟩
    · obtain ⟨r, h1, h2⟩ := findNow_map k s l (n + 1) (i + 1)
      refine ⟨r, ?_, ?_⟩
      · simp only [List.zipIdx_cons, List.map_cons, Instr.findNow, Instr.sameNow, ↓reduceIte]
        rw [show (s == a) = false by simp [h]]
        exact h1
      · rw [h2]; simp [lkM, Ne.symm h]
section
variable {X : Cx} {fr : Fr} {L : List AO} {K : Value → List AO → Prop}
theorem raw_mk {t : TypeId} (h : K (.map (some (100 + L.length))) (L ++ [.obj (.map #[] 0)])) : RawO X fr L (.makeMap t none) K := by
  intro N D ρ w a hs hf
  have hsim := sim_push (o := .obj (.map #[] 0)) (ob := .map #[] 0) hs (fun c T e => by cases e) (fun _ _ e => by cases e) (fun p e => by cases e; rfl)
  have hext := ext_push (ρ := ρ) (L := X.pad ++ L) (w := w) (o := .obj (.map #[] 0)) (ob := .map #[] 0)
  rw [List.append_assoc] at hsim hext
  refine ⟨.map (some (100 + L.length)), _, _, pushBlk w (.map #[] 0), fun o ho => .inl ?_, h, ?_, hsim, hext⟩
  · simp [execOp, ho, Instr.makeMap, newObj, Sem.run, pushBlk, upN, X.len]
  · intro ρ1 ρ2 e
    simp only [rl_map]
    rw [e _ (by simp [X.len])]
theorem run_getObj {P : Program} {r : Nat} {es : Array MapEntry} {n : Nat} {w : World} (h : w.heap[r]? = some (.map es n)) : (getObj r).run P w = .ok (.map es n) w := by
  simp [getObj, Sem.run, h]
theorem run_setObj {P : Program} {r : Nat} {es : Array MapEntry} {n : Nat} {o : Obj} {w : World} (h : w.heap[r]? = some (.map es n)) : (setObj r o).run P w = .ok () (setBlk w r o) := by
  simp [setObj, Sem.run, h, setBlk]
theorem run_checkKey {P : Program} {b : Bool} {kt : TypeId} {ik : IntKind} {n : Nat} {s : Int} {k : IntKind} (h : P.underlying kt = some (.int ik)) (w : World) : (Instr.checkKey b (n + 1) kt (.int k s)).run P w = .ok () w := by
  simp [Instr.checkKey, run_underlying h]
theorem run_findKey {P : Program} {kt : TypeId} {ik : IntKind} {l : List (Int × Int)} {s : Int} (h : P.underlying kt = some (.int ik)) (w : World) : ∃ r, (Instr.findKey kt (.int .i8 s) (mapE l).toList).run P w = .ok r w ∧ r.map (·.2) = (lkM l s).map (.int .i8) := by
  obtain ⟨r, h1, h2⟩ := findNow_map ik s l 0 0
  refine ⟨r, ?_, h2⟩
  simp only [Instr.findKey, Sem.run_bind, run_underlying h, Result.andThen_ok, mapE, h1, Sem.run_pure]
theorem raw_lk {t kt et : TypeId} {ik : IntKind} {i : Nat} {m k : Operand} {s : Int} {l : List (Int × Int)} (hm : evO X.ng fr m = some (.map (some (100 + i)))) (hk : evO X.ng fr k = some (.int .i8 s)) (hL : L[i]? = some (.obj (mapO l)))
    (hP : X.P.underlying t = some (.map kt et)) (hP2 : X.P.underlying kt = some (.int ik)) (hz : (X.P.info? et).bind (fun i => i.zero) = some (.int .i8 0)) (h : K (.tuple #[.int .i8 ((lkM l s).getD 0), .bool (lkM l s).isSome]) L) : RawO X fr L (.lookup t m k true) K := by
  intro N D ρ w a hs hf
  have e1 := (evO_sound hs hf hm).1
  have e2 := (evO_sound hs hf hk).1
  have hb := hs.obj (100 + i) _ (by rw [get_own]; exact hL)
  obtain ⟨zi, hi, hz⟩ := Option.bind_eq_some_iff.1 hz
  obtain ⟨r, hr1, hr2⟩ := run_findKey (P := X.P) (l := l) (s := s) hP2 w
  refine ⟨_, ρ, L, w, fun o ho => .inl ?_, h, ?_, hs, Ext.refl _ _ _⟩
  · simp only [execOp, ho, e1, e2, rl_map, rl_int, Instr.lookup, Sem.run_bind, run_underlying hP, Result.andThen_ok, run_getObj hb, run_checkKey hP2, Sem.run_pure, hr1]
    cases hq : lkM l s with
    | none =>
      rw [hq] at hr2
      cases r with
      | none => simp [run_zero hi hz]
      | some r => simp at hr2
    | some v =>
      rw [hq] at hr2
      cases r with
      | none => simp at hr2
      | some r => obtain ⟨n, x⟩ := r; simp at hr2; subst hr2; simp
  · exact fun _ _ _ => by simp
theorem raw_mu {t kt et : TypeId} {ik : IntKind} {i : Nat} {m k v : Operand} {s p : Int} {l : List (Int × Int)} (hm : evO X.ng fr m = some (.map (some (100 + i)))) (hk : evO X.ng fr k = some (.int .i8 s)) (hv : evO X.ng fr v = some (.int .i8 p)) (hL : L[i]? = some (.obj (mapO l)))
    (hP : X.P.underlying t = some (.map kt et)) (hP2 : X.P.underlying kt = some (.int ik)) (hn : lkM l s = none) (h : K (.tuple #[]) (L.set i (.obj (mapO (l ++ [(s, p)]))))) : RawO X fr L (.mapUpdate t m k v) K := by
  intro N D ρ w a hs hf
  have e1 := (evO_sound hs hf hm).1
  have e2 := (evO_sound hs hf hk).1
  have e3 := (evO_sound hs hf hv).1
  have hL' : (X.pad ++ L)[100 + i]? = some (.obj (mapO l)) := by rw [get_own]; exact hL
  have hb := hs.obj (100 + i) _ hL'
  obtain ⟨r, hr1, hr2⟩ := run_findKey (P := X.P) (l := l) (s := s) hP2 w
  have hsim := sim_setO (o' := mapO (l ++ [(s, p)])) hs hL'
  have hext := ext_set (ρ := ρ) (w := w) (o' := .obj (mapO (l ++ [(s, p)]))) (ob := mapO (l ++ [(s, p)])) hL' rfl rfl
  have hset : (X.pad ++ L).set (100 + i) (.obj (mapO (l ++ [(s, p)]))) = X.pad ++ L.set i (.obj (mapO (l ++ [(s, p)]))) := by
    rw [List.set_append_right _ _ (by rw [X.len]; omega), X.len, Nat.add_sub_cancel_left]
  rw [hset] at hsim hext
  refine ⟨_, ρ, _, _, fun o ho => .inr ⟨rfl, ?_⟩, h, fun _ _ _ => by simp, hsim, hext⟩
  rw [hn] at hr2
  cases r with
  | some r => simp at hr2
  | none =>
    simp only [execOp, ho, e1, e2, e3, rl_map, rl_int, Instr.mapUpdate, Sem.run_bind, run_underlying hP, Result.andThen_ok, run_getObj hb, run_checkKey hP2, Sem.run_pure, hr1, mapE_push, run_setObj hb]
    simp [mapO]
theorem mk_ops {all rest : List Oper} {dst : Option Tmp} {t : TypeId} {type : TypeId} {pos : String} {after : Array Edge} {K : Fr → List AO → Prop} (h : wpOps X all rest (fr.put dst (.map (some (100 + L.length)))) (L ++ [.obj (mapO [])]) K) :
    wpOps X all ({ dst, op := .makeMap t none, type, pos, after, guard := none } :: rest) fr L K := raw_mk h
theorem lk_ops {all rest : List Oper} {dst : Option Tmp} {t kt et : TypeId} {type : TypeId} {pos : String} {after : Array Edge} {K : Fr → List AO → Prop} {ik : IntKind} {i : Nat} {m k : Operand} {s : Int} {l : List (Int × Int)} (hm : evO X.ng fr m = some (.map (some (100 + i)))) (hk : evO X.ng fr k = some (.int .i8 s)) (hL : L[i]? = some (.obj (mapO l)))
    (hP : X.P.underlying t = some (.map kt et)) (hP2 : X.P.underlying kt = some (.int ik)) (hz : (X.P.info? et).bind (fun i => i.zero) = some (.int .i8 0)) (h : wpOps X all rest (fr.put dst (.tuple #[.int .i8 ((lkM l s).getD 0), .bool (lkM l s).isSome])) L K) :
    wpOps X all ({ dst, op := .lookup t m k true, type, pos, after, guard := none } :: rest) fr L K := raw_lk (K := fun v L' => wpOps X all rest (fr.put dst v) L' K) hm hk hL hP hP2 hz h
theorem mu_ops {all rest : List Oper} {dst : Option Tmp} {t kt et : TypeId} {type : TypeId} {pos : String} {after : Array Edge} {K : Fr → List AO → Prop} {ik : IntKind} {i : Nat} {m k v : Operand} {s p : Int} {l : List (Int × Int)} (hm : evO X.ng fr m = some (.map (some (100 + i)))) (hk : evO X.ng fr k = some (.int .i8 s)) (hv : evO X.ng fr v = some (.int .i8 p)) (hL : L[i]? = some (.obj (mapO l)))
    (hP : X.P.underlying t = some (.map kt et)) (hP2 : X.P.underlying kt = some (.int ik)) (hn : lkM l s = none) (h : wpOps X all rest (fr.put dst (.tuple #[])) (L.set i (.obj (mapO (l ++ [(s, p)])))) K) :
    wpOps X all ({ dst, op := .mapUpdate t m k v, type, pos, after, guard := none } :: rest) fr L K := raw_mu (K := fun v L' => wpOps X all rest (fr.put dst v) L' K) hm hk hv hL hP hP2 hn h
end
end Go.Tb
end
section
namespace Go.Tb
open Go Go.Proofs
section
variable {X : Cx} {N : Nat}
theorem startD {f g : FuncId} {fn : Func} {c0 c1 rest : Code} {vs : List Value} {L : List AO} {K : Value → List AO → Prop} (V : List Nat) (nc : Nat) (fr1 : Fr) (L1 : List AO) (hf : X.P.funcs[f]? = some fn) (hb : fn.body = some (.seq c0 (.seq c1 rest))) (hn : (fn.name == "runtime.NumGoroutine") = false)
    (hN : fn.ntmps = N) (hd0 : dstOk N c0 = true) (hdr : dstOk N rest = true) (hl : vs.length ≤ N)
    (h0 : wpC X N [] L.length V c0 (fun e fr L' => e = .normal ∧ fr = fr1 ∧ L' = L1) (initFr 0 vs) L)
    (h1 : ∀ (a : Act) (w : World), a.defers = [] → a.tmps.size = N → c1.wp X.P (fun e a' w' => e = .normal ∧ w' = w ∧ a'.tmps.size = N ∧ (∀ t v, fr1.get t = some v → a'.tmps[t]? = a.tmps[t]?) ∧ ∃ cap : Array Value, a'.defers = [⟨.fn (.func g) cap, #[]⟩] ∧ cap.size = nc) a w)
    (hgo : callOk X.P g = true) (hg : ∀ (cap : Array Value) (w : World), cap.size = nc → CallsD X.P g cap .returning w fun e u' w' => u' = .returning ∧ (∃ v, e = .returned v) ∧ w' = w)
    (h2 : ∀ D, wpC X N D L.length V rest (retQ X fn.results.toList K) fr1 L1) : CallM X f vs L K := by
  subst hN
  refine ⟨by simp [callOk, hf, hb, hn], fun ρ w hs hw => ?_⟩
  refine calls_of_wp_defers hf hb ?_
  have hfr : FRel fn.ntmps [] ρ (X.pad ++ L).length (initFr 0 vs) ⟨(vs.map (rl ρ)).toArray ++ Array.replicate (fn.ntmps - (vs.map (rl ρ)).toArray.size) undef, []⟩ := by
    refine ⟨by simp; omega, rfl, fun t v hv => ?_⟩
    obtain ⟨_, h2⟩ := initFr_get vs 0 t v hv
    simp only [Nat.sub_zero] at h2
    have ht : t < vs.length := (List.getElem?_eq_some_iff.1 h2).1
    refine ⟨?_, hw v (List.mem_of_getElem? h2)⟩
    rw [Array.getElem?_append_left (by simpa using ht)]
    simp [h2]
  refine wp_seq (wp_mono (wpC_sound c0 hd0 h0 ρ L w ρ _ w rfl hs hfr (Ext.refl _ _ _)) ?_)
  rintro e a1 w1 ⟨ρ1, fr', L', ⟨rfl, rfl, rfl⟩, s1, f1, x1⟩
  refine wp_seq (wp_mono (h1 a1 w1 f1.defers f1.size) ?_)
  rintro e a2 w2 ⟨rfl, rfl, hsz, hsame, cap, hdef, hcap⟩
  have f2 : FRel fn.ntmps [⟨.fn (.func g) cap, #[]⟩] ρ1 (X.pad ++ L').length fr' a2 := ⟨hsz, hdef, fun t v hv => by rw [hsame t v hv]; exact f1.tmps t v hv⟩
  refine wp_mono (wpC_sound rest hdr (h2 _) ρ L w ρ1 a2 w2 rfl s1 f2 x1) ?_
  rintro e a' w' ⟨ρ', fr2, L2, q, s, f, x⟩
  have key : ∀ e, (e = .normal ∨ e = .ret) → onV (resV X fr2 L2 fn.results.toList) (fun vs => K (resOf vs) L2) → bodyPostD X.P fn (fun e w' => ∃ ρ' v L', e = .returned (rl ρ' v) ∧ K v L' ∧ WF (X.pad ++ L').length v ∧ Sim X.ng ρ' (X.pad ++ L') w' ∧ Ext ρ (X.pad ++ L) w ρ' (X.pad ++ L') w') e a' w' := by
    intro e he q
    obtain ⟨us, hus, hk⟩ := onV_spec q
    obtain ⟨h1, h2⟩ := run_results (fn := fn) s f hus
    have hlv : Leaves X.P fn a'.tmps (fun e w' => ∃ ρ' v L', e = .returned (rl ρ' v) ∧ K v L' ∧ WF (X.pad ++ L').length v ∧ Sim X.ng ρ' (X.pad ++ L') w' ∧ Ext ρ (X.pad ++ L) w ρ' (X.pad ++ L') w') a'.defers .returning w' := by
      rw [f.defers]
      refine ⟨by simp, .func g, cap, g, cap, rfl, ?_, ?_⟩
      · have := callOk_spec hgo cap w'
        simpa [invoke] using this
      · refine (hg cap w' hcap).mono ?_
        rintro e u' w'' ⟨rfl, ⟨v, rfl⟩, rfl⟩
        exact ⟨_, h1, ρ', _, L2, rfl, hk, h2, s, x⟩
    rcases he with rfl | rfl <;> exact hlv
  cases e with
  | normal => exact key _ (.inl rfl) q
  | ret => exact key _ (.inr rfl) q
  | _ => exact q.elim
end
theorem arr2 {cap : Array Value} (h : cap.size = 2) : ∃ x y, cap = #[x, y] := by
  obtain ⟨l⟩ := cap
  match l, h with
  | [x, y], _ => exact ⟨x, y, rfl⟩
theorem F16_ok (cap : Array Value) (w : World) (hc : cap.size = 2) : CallsD Tryz.prog 16 cap .returning w fun e u' w' => u' = .returning ∧ (∃ v, e = .returned v) ∧ w' = w := by
  obtain ⟨x, y, rfl⟩ := arr2 hc
  refine callsD_of_wpS Tryz.func16 rfl fun c₀ cs hu => ?_
  apply wpS_seq
  apply wpS_region
  simp [wpOpsS, go_sem, recoverD, hu, Tryz.ntmps16, Exit.thenS]
  refine wpS_cond (t := false) (by simp [Act.eval, Array.replicate]) ?_
  simp only [Bool.false_eq_true, if_false]
  refine wpS_of_wp (wp_skip ?_)
  cases c₀
  simp_all [bodyPostS, results, Tryz.results16]
end Go.Tb
end
section
namespace Go.Tb
open Go Go.Proofs
variable {z : Nat × Nat}
set_option maxRecDepth 20000
def PfC (z : Nat × Nat) (d : Nat) : Prop := ∀ s : PSt, PfOk d s → FnM (Tz z) 17 [.pointer (some ⟨100, 0, none⟩), .int .i64 d] [.cells (psL 101 nilS s.2.1) 82, .cells (boardL s.2.2) 110] (fun _ : Unit => True) (fun _ => .int .i64 (pfN d s)) (fun _ => [.any, .any])
theorem pd_wv (d : Nat) (n : Nat) (h : 0 < n) : ∀ u ∈ [Value.pointer (some ⟨100, 0, none⟩), .int .i64 (d : Int)], WF (100 + n) u := by
  intro u hu
  simp only [List.mem_cons, List.not_mem_nil, or_false] at hu
  rcases hu with rfl | rfl
  · exact WF_ptrN (by omega)
  · exact wf_int
set_option maxHeartbeats 4000000 in
theorem perft_ok0 : PfC z 0 := by
  intro s _
  refine ⟨pd_wv 0 _ (by simp), pb_wl _ _, fun _ _ o ho => by simp at ho, CallM.shiftX (start [0, 1, 4, 5, 7, 9, 11, 12, 13, 14] Tryz.func17 rfl (by decide) rfl (by kernel_rfl) (by simp [Tryz.f17]) ?_)⟩
  simp only [Tryz.f17]
  repeat' (first | with_reducible refine seq_k fun K hK => ?_ | (with_reducible refine hK _ _ ?_; clear hK) | ((with_reducible first | refine gd_dec ?_ ?_ | refine gd_ndec ?_ ?_ | refine qC_dec ?_ ?_ | refine qC_ndec ?_ ?_ | refine piC_dec ?_ ?_ | refine piC_ndec ?_ ?_ | refine zC_dec ?_ ?_ | refine zC_ndec ?_ ?_ | refine zD_dec ?_ ?_ | refine yC_dec ?_ ?_ | refine yC_ndec ?_ ?_ | refine if_dec ?_ ?_ | refine if_ndec ?_ ?_) <;> intro hh) | simp -implicitDefEqProofs (disch := first | omega | assumption) only [go_sem, ↓reduceIte, Nat.reduceEqDiff, Int.reduceEq, Nat.reduceAdd, Nat.reduceSub, Nat.reduceMul, Nat.mul_one, Nat.one_mul, List.length_nil, List.length_cons, List.nil_append, List.cons_append, List.length_append, List.set_cons_zero, List.set_cons_succ, Nat.zero_add, Nat.sub_zero, Option.isNone_none, Option.isNone_some, Int.toNat_natCast, Nat.add_sub_cancel_left, Bool.not_true, Bool.not_false, BitVec.reduceOfInt, Int.reduceToNat] | ((with_reducible first | refine gd_bool ?_ ?_ | refine if_bool ?_ ?_ | refine qC_bool ?_ ?_ | refine piC_bool ?_ ?_ | refine zC_bool ?_ ?_ | refine zD_bool ?_ ?_ | refine yC_bool ?_ ?_) <;> intro hh) | clear hK)
  refine ⟨(), trivial, ?_⟩
  exact VS.any2 rfl rfl Pl.int
theorem sumK_0 (f : Nat → Int) : sumK f 0 = 0 := rfl
theorem sumK_S (f : Nat → Int) (k : Nat) : sumK f (k + 1) = sumK f k + f k := rfl
theorem pred1 (d : Nat) : ((d + 1 : Nat) : Int) - 1 = (d : Int) := by omega
theorem pow_le5 {d : Nat} (h : d ≤ 5) : (220 : Int) ^ d ≤ 220 ^ 5 := by
  have : d = 0 ∨ d = 1 ∨ d = 2 ∨ d = 3 ∨ d = 4 ∨ d = 5 := by omega
  rcases this with rfl | rfl | rfl | rfl | rfl | rfl <;> decide
theorem pfS_bd {d k n : Nat} {f : Nat → Int} (hd : d ≤ 5) (hn : n ≤ 220) (hk : k ≤ n) (h : ∀ i, i < n → 0 ≤ f i ∧ f i ≤ 220 ^ d) : 0 ≤ sumK f k ∧ sumK f k ≤ 113379904000000 := by
  obtain ⟨a, b⟩ := sumK_bd2 (f := f) (M := 220 ^ d) k fun i hi => h i (by omega)
  refine ⟨a, Int.le_trans b (Int.le_trans (Int.mul_le_mul_of_nonneg_right (by omega : (k : Int) ≤ 220) (pow220 d)) ?_)⟩
  have := pow_le5 hd
  omega
attribute [local irreducible] stdL csL allL updB crUp updD pfN sumK in
set_option maxHeartbeats 8000000 in
theorem perft_okS (d : Nat) (hd : d ≤ 5) (ih : PfC z d) : PfC z (d + 1) := by
  unfold PfC at ih
  rintro ⟨l, D, B⟩ ⟨hs, hm⟩
  have hlen : (allL l D B).length ≤ 220 := allS_len hs
  have hpf : ∀ i, i < (allL l D B).length → 0 ≤ pfN d (nxt (l, D, B) (vAt (allL l D B) i)) ∧ pfN d (nxt (l, D, B) (vAt (allL l D B) i)) ≤ 220 ^ d := fun i hi => pfN_bd d _ (hm _ (vAt_mem (l := (allL l D B)) hi)).2
  have hsum : ∀ k, k ≤ (allL l D B).length → 0 ≤ sumK (fun i => pfN d (nxt (l, D, B) (vAt (allL l D B) i))) k ∧ sumK (fun i => pfN d (nxt (l, D, B) (vAt (allL l D B) i))) k ≤ 113379904000000 := fun k hk => pfS_bd hd hlen hk hpf
  have h5 := pow_le5 hd
  refine ⟨pd_wv (d + 1) _ (by simp), pb_wl _ _, fun _ _ o ho => by simp at ho, CallM.shiftX (start [0, 1, 4, 5, 7, 9, 11, 12, 13, 14] Tryz.func17 rfl (by decide) rfl (by kernel_rfl) (by simp [Tryz.f17]) ?_)⟩
  simp only [Tryz.f17]
  repeat' (first | ((with_reducible refine call_fr (valid_okM l D B hs.len hs.cr hs.std hs.ep hs.turn hs.wk hs.bk) [0, 1] ?_ ?_ ?_ ?_); (· kernel_rfl); (· exact ⟨by kernel_rfl, by kernel_rfl, trivial⟩); (· kernel_rfl); rintro ⟨⟨tc, cc⟩, h⟩ ⟨hx1, hx2⟩; (have hpc := pl_app (vsL_pl (allL l D B)) hx1.2.2.2); (have hpm := fun σ : Nat → Nat => pl_map hpc σ); (rcases h with _ | ⟨t2, c2⟩); (have hz := hx2.1); simp only [vxM, slM, slH_none]; simp -implicitDefEqProofs only [fixL_eq, setAll_cons, setAll_nil, setAll_nil2, List.map_cons, List.map_nil, rn_cells, rn_ro, rn_any, rn_obj, boardL_map, mvL_map, psL_map, map_ints, List.set_cons_zero, List.set_cons_succ, List.length_cons, List.length_nil, List.drop_succ_cons, List.drop_zero, List.drop_nil, List.append_nil, List.nil_append, List.cons_append, rl_tuple, rl_int, rl_bool, rl_string, rl_ptr, rl_ptr0, rl_slice, rl_slice0, rl_agg, List.map_toArray, Array.map_empty, List.length_append, Nat.zero_add, Nat.reduceAdd, sig, Nat.reduceLT, Nat.reduceSub, ↓reduceIte, List.getElem?_cons_zero, List.getElem?_cons_succ, List.getElem?_nil, Nat.reduceAdd, Nat.add_zero, Nat.sub_self]; simp only [hpm]; rotate_left; (have hp2 := pl_app (vsL_pl (allL l D B)) hx2.2.2.2); (have hpn := fun σ : Nat → Nat => pl_map hp2 σ); simp only [vxM, slM, slH_some]; simp -implicitDefEqProofs only [fixL_eq, setAll_cons, setAll_nil, setAll_nil2, List.map_cons, List.map_nil, rn_cells, rn_ro, rn_any, rn_obj, boardL_map, mvL_map, psL_map, map_ints, List.set_cons_zero, List.set_cons_succ, List.length_cons, List.length_nil, List.drop_succ_cons, List.drop_zero, List.drop_nil, List.append_nil, List.nil_append, List.cons_append, rl_tuple, rl_int, rl_bool, rl_string, rl_ptr, rl_ptr0, rl_slice, rl_slice0, rl_agg, List.map_toArray, Array.map_empty, List.length_append, Nat.zero_add, Nat.reduceAdd, sig, Nat.reduceLT, Nat.reduceSub, ↓reduceIte, List.getElem?_cons_zero, List.getElem?_cons_succ, List.getElem?_nil, Nat.reduceAdd, Nat.add_zero, Nat.sub_self]; simp only [hpm, hpn]; rotate_left) | ((with_reducible refine loop (V := [0, 1, 4, 5, 7, 9, 11, 12, 13, 14]) (fun k : Nat => ([(0, .pointer (some ⟨100, 0, none⟩)), (1, .int .i64 ((d + 1 : Nat) : Int)), (5, .int .i64 (sumK (fun i => pfN d (nxt (l, D, B) (vAt (allL l D B) i))) k)), (11, .slice (some ⟨103, 0, none⟩) (allL l D B).length c2), (12, .int .i64 (allL l D B).length), (13, .int .i64 k)], [.cells (psL 101 (.slice (some ⟨102, 0, none⟩) (allL l D B).length cc) D) 82, .cells (boardL B) 110, .cells (vsL (allL l D B) ++ tc) 60, .cells (vsL (allL l D B) ++ t2) 60])) (fun k => k ≤ (allL l D B).length) (fun k => (allL l D B).length - k) 0 (by kernel_rfl) ?_ ?_ (fun k hk => ?_)); rotate_left 2; have hsk := hsum k hk; have hfk := hpf k; have hmk := fun hlt : k < (allL l D B).length => hm _ (vAt_mem (l := (allL l D B)) hlt); rotate_right 2) | with_reducible refine loop (V := [0, 1, 4, 5, 7, 9, 11, 12, 13, 14]) (fun k : Nat => ([(5, .int .i64 0), (12, .int .i64 0), (13, .int .i64 0)], [.cells (psL 101 (.slice (some ⟨102, 0, none⟩) (allL l D B).length cc) D) 82, .cells (boardL B) 110, .cells (vsL (allL l D B) ++ tc) 60])) (fun _ => True) (fun k => 0) 0 (by kernel_rfl) trivial ?_ (fun k hk => ?_) | ((with_reducible refine call_fr (Update_ok D (vAt (allL l D B) k) B (allL l D B).length cc (vsL (allL l D B) ++ tc) hpc l hs.len hs.cr (hmk (by omega)).1.s1 (hmk (by omega)).1.s2 (hmk (by omega)).1.promo hs.half hs.mc) [0, 4, 1, 2] ?_ ?_ ?_ ?_); (· kernel_rfl); (· exact ⟨by kernel_rfl, by kernel_rfl, by kernel_rfl, by rw [plK hpc]; rfl, trivial⟩); (· kernel_rfl); intro xx hx; simp only [pmbL]; simp -implicitDefEqProofs only [fixL_eq, setAll_cons, setAll_nil, setAll_nil2, List.map_cons, List.map_nil, rn_cells, rn_ro, rn_any, rn_obj, boardL_map, mvL_map, psL_map, map_ints, List.set_cons_zero, List.set_cons_succ, List.length_cons, List.length_nil, List.drop_succ_cons, List.drop_zero, List.drop_nil, List.append_nil, List.nil_append, List.cons_append, rl_tuple, rl_int, rl_bool, rl_string, rl_ptr, rl_ptr0, rl_slice, rl_slice0, rl_agg, List.map_toArray, Array.map_empty, List.length_append, Nat.zero_add, Nat.reduceAdd, sig, Nat.reduceLT, Nat.reduceSub, ↓reduceIte, List.getElem?_cons_zero, List.getElem?_cons_succ, List.getElem?_nil, Nat.reduceAdd, Nat.add_zero, Nat.sub_self]; simp only [hpm, hpn]) | ((with_reducible refine call_fr (ih (nxt (l, D, B) (vAt (allL l D B) k)) (hmk (by omega)).2) [6, 5] ?_ ?_ ?_ ?_); (· kernel_rfl); (· exact ⟨by kernel_rfl, by kernel_rfl, trivial⟩); (· kernel_rfl); intro xx hx; simp -implicitDefEqProofs only [fixL_eq, setAll_cons, setAll_nil, setAll_nil2, List.map_cons, List.map_nil, rn_cells, rn_ro, rn_any, rn_obj, boardL_map, mvL_map, psL_map, map_ints, List.set_cons_zero, List.set_cons_succ, List.length_cons, List.length_nil, List.drop_succ_cons, List.drop_zero, List.drop_nil, List.append_nil, List.nil_append, List.cons_append, rl_tuple, rl_int, rl_bool, rl_string, rl_ptr, rl_ptr0, rl_slice, rl_slice0, rl_agg, List.map_toArray, Array.map_empty, List.length_append, Nat.zero_add, Nat.reduceAdd, sig, Nat.reduceLT, Nat.reduceSub, ↓reduceIte, List.getElem?_cons_zero, List.getElem?_cons_succ, List.getElem?_nil, Nat.reduceAdd, Nat.add_zero, Nat.sub_self]) | with_reducible refine seq_k fun K hK => ?_ | (with_reducible refine hK _ _ ?_; clear hK) | ((with_reducible first | refine gd_dec ?_ ?_ | refine gd_ndec ?_ ?_ | refine qC_dec ?_ ?_ | refine qC_ndec ?_ ?_ | refine piC_dec ?_ ?_ | refine piC_ndec ?_ ?_ | refine zC_dec ?_ ?_ | refine zC_ndec ?_ ?_ | refine zD_dec ?_ ?_ | refine yC_dec ?_ ?_ | refine yC_ndec ?_ ?_ | refine if_dec ?_ ?_ | refine if_ndec ?_ ?_) <;> intro hh) | simp -implicitDefEqProofs (disch := first | omega | assumption) only [go_sem, ↓reduceIte, Nat.reduceEqDiff, Int.reduceEq, Nat.reduceAdd, Nat.reduceSub, Nat.reduceMul, Nat.mul_one, Nat.one_mul, List.length_nil, List.length_cons, List.nil_append, List.cons_append, List.length_append, List.set_cons_zero, List.set_cons_succ, Nat.zero_add, Nat.sub_zero, Option.isNone_none, Option.isNone_some, Int.toNat_natCast, Nat.add_sub_cancel_left, Bool.not_true, Bool.not_false, BitVec.reduceOfInt, Int.reduceToNat, vsL_map, pred1, vsL_subT, mv_lit, wr_mv0, slH_some] | ((with_reducible first | refine gd_bool ?_ ?_ | refine if_bool ?_ ?_ | refine qC_bool ?_ ?_ | refine piC_bool ?_ ?_ | refine zC_bool ?_ ?_ | refine zD_bool ?_ ?_ | refine yC_bool ?_ ?_) <;> intro hh) | clear hK)
  all_goals first
    | exact Nat.zero_le _
    | (exact VS.sub2 (by simp [Fr.sub, Fr.get, sumK_0]) rfl)
    | (refine ⟨(), trivial, ?_⟩
       have e : pfN (d + 1) (l, D, B) = 0 := by
         rw [pfN_S, show (allS (l, D, B)).length = 0 from hz]; exact sumK_0 _
       rw [e]; exact VS.any2 rfl rfl Pl.int)
    | (have hkk : k = (allL l D B).length := by omega
       refine ⟨(), trivial, ?_⟩
       have e : pfN (d + 1) (l, D, B) = sumK (fun i => pfN d (nxt (l, D, B) (vAt (allL l D B) i))) k := by rw [hkk]; exact pfN_S d (l, D, B)
       rw [e]; exact VS.any2 rfl rfl Pl.int)
    | (refine ⟨k + 1, by omega, by omega, VS.cutT rfl (by simp) ⟨psL_wf (by simp) (wf_sl (by simp)), plW (boardL_pl B), plW hpc, plW hp2, trivial⟩ ?_⟩
       rw [sumK_S]
       simp [subW, Fr.get, wf_int, wf_sl, wf_pt])
theorem perft_ok : ∀ d : Nat, d ≤ 5 → PfC z d
  | 0, _ => perft_ok0
  | d + 1, h => perft_okS d (by omega) (perft_ok d (by omega))
end Go.Tb
end
section
namespace Go.Tb
open Go Go.Proofs
variable {z : Nat × Nat}
set_option maxRecDepth 20000
def bbL (l : List (Int × Int)) (p : Int) : Nat → BitVec 64
  | 0 => 0#64
  | n + 1 => if ((lkM l n).isSome && decide (p = (lkM l n).getD 0)) = true then bbL l p n <<< 1 ||| 1#64 else bbL l p n <<< 1
def zBrd : Brd := ⟨0#64, 0#64, 0#64, 0#64, 0#64, 0#64, 0#64, 0#64, 0#64, 0#64, 0#64, 0#64, 0#64, 0#64, 0#64, 0, 0⟩
def nbK (l : List (Int × Int)) : Nat → Brd
  | 0 => zBrd
  | k + 1 => putP (nbK l k) ((k : Int) + 1) (bbL l ((k : Int) + 1) 64)
theorem nbK_get (l : List (Int × Int)) (k : Nat) : nbK l (k + 1) = putP (nbK l k) ((k : Int) + 1) (bbL l ((k : Int) + 1) 64) := rfl
theorem wf_map {n b : Nat} (h : b < n) : WF n (.map (some b)) := fun ρ ρ' e => by simp [e b h]
theorem zb_bd : ([.int .u64 0, .int .u64 0, .int .u64 0, .int .u64 0, .int .u64 0, .int .u64 0, .int .u64 0, .int .u64 0, .int .u64 0, .int .u64 0, .int .u64 0, .int .u64 0, .int .u64 0, .int .u64 0, .int .u64 0, .int .i8 0, .int .i8 0] : List Value) = boardL zBrd := rfl
theorem bbL_y {l : List (Int × Int)} {p : Int} {j : Nat} (h1 : (lkM l j).isSome = true) (h2 : p = (lkM l j).getD 0) : bbL l p (j + 1) = bbL l p j <<< 1 ||| 1#64 := by
  rw [bbL, if_pos (by rw [h1, decide_eq_true h2]; rfl)]
theorem bbL_n1 {l : List (Int × Int)} {p : Int} {j : Nat} (h1 : (lkM l j).isSome = false) : bbL l p (j + 1) = bbL l p j <<< 1 := by
  rw [bbL, if_neg (by rw [h1]; simp)]
theorem bbL_n2 {l : List (Int × Int)} {p : Int} {j : Nat} (h2 : ¬ p = (lkM l j).getD 0) : bbL l p (j + 1) = bbL l p j <<< 1 := by
  rw [bbL, if_neg (by rw [decide_eq_false h2]; simp)]
set_option maxHeartbeats 4000000 in
theorem newBoard_ok (l : List (Int × Int)) : FnM (Tz z) 64 [.map (some 100)] [.obj (mapO l)] (fun _ : Unit => True) (fun _ => .pointer (some ⟨101, 0, none⟩)) (fun _ => [.obj (mapO l), .cells (boardL (calcN (nbK l 12))) 110]) := by
  refine ⟨?_, ?_, fun _ _ o ho => ?_, start [0, 2, 3, 5, 6, 7, 8, 9, 12, 13, 14, 15, 18, 19, 35] Tryz.func64 rfl (by decide) rfl (by kernel_rfl) (by simp [Tryz.f64]) ?_⟩
  · intro u hu
    simp only [List.mem_cons, List.not_mem_nil, or_false] at hu; subst hu
    exact wf_map (by simp)
  · intro o ho
    simp only [List.mem_cons, List.not_mem_nil, or_false] at ho; subst ho
    trivial
  · simp at ho; subst ho; rfl
  simp only [Tryz.f64]
  repeat' (first | with_reducible refine loop (c := Code.seq (Code.region 3 _ _) _) (V := [0, 2, 3, 5, 6, 7, 8, 9, 12, 13, 14, 15, 18, 19, 35]) (fun k : Nat => ([(0, .map (some 100)), (3, .pointer (some ⟨101, 0, none⟩)), (12, .slice (some ⟨12, z.1, none⟩) 12 12), (13, .int .i64 12), (14, .int .i64 k)], [.obj (mapO l), .cells (boardL (nbK l k)) 110])) (fun k => k ≤ 12) (fun k => 12 - k) 0 (by kernel_rfl) ?_ ?_ (fun k hk => ?_) | with_reducible refine loop (c := Code.seq (Code.region 7 _ _) _) (V := [0, 2, 3, 5, 6, 7, 8, 9, 12, 13, 14, 15, 18, 19, 35]) (fun j : Nat => ([(0, .map (some 100)), (3, .pointer (some ⟨101, 0, none⟩)), (12, .slice (some ⟨12, z.1, none⟩) 12 12), (13, .int .i64 12), (14, .int .i64 k), (5, .int .i8 ((k : Int) + 1)), (6, bv (bbL l ((k : Int) + 1) j)), (18, .int .i64 j)], [.obj (mapO l), .cells (boardL (nbK l k)) 110])) (fun j => j ≤ 64) (fun j => 64 - j) 0 (by kernel_rfl) ?_ ?_ (fun j hj => ?_) | (with_reducible refine lk_ops (X := Tz z) (i := 0) (l := l) (s := (j : Int)) (kt := 57) (et := 90) (ik := .i8) (by kernel_rfl) (by kernel_rfl) rfl (by kernel_rfl) (by kernel_rfl) (by kernel_rfl) ?_; rcases hq : lkM l (j : Int) with _ | pv <;> simp only [Option.isSome_none, Option.isSome_some, Option.getD_none, Option.getD_some]) | ((with_reducible refine call_wi (f := 74) ?_ ?_ ?_ ?_ ?_ ?_ ?_ ?_); rotate_left 4; (· first | omega | decide); (· first | rfl | simp; done); (· refine setBB_ok _ ?_ <;> omega)) | ((with_reducible refine call_fr (calcN_ok (nbK l k)) [1] ?_ ?_ ?_ ?_); (· kernel_rfl); (· exact ⟨by kernel_rfl, trivial⟩); (· kernel_rfl); intro xx hx; simp -implicitDefEqProofs only [fixL_eq, setAll_cons, setAll_nil, setAll_nil2, List.map_cons, List.map_nil, rn_cells, rn_ro, rn_any, rn_obj, boardL_map, mvL_map, psL_map, map_ints, List.set_cons_zero, List.set_cons_succ, List.length_cons, List.length_nil, List.drop_succ_cons, List.drop_zero, List.drop_nil, List.append_nil, List.nil_append, List.cons_append, rl_tuple, rl_int, rl_bool, rl_string, rl_ptr, rl_ptr0, rl_slice, rl_slice0, rl_agg, List.map_toArray, Array.map_empty, List.length_append, Nat.zero_add, Nat.reduceAdd, sig, Nat.reduceLT, Nat.reduceSub, ↓reduceIte, List.getElem?_cons_zero, List.getElem?_cons_succ, List.getElem?_nil, Nat.reduceAdd, Nat.add_zero, Nat.sub_self]) | with_reducible refine seq_k fun K hK => ?_ | (with_reducible refine hK _ _ ?_; clear hK) | ((with_reducible first | refine gd_dec ?_ ?_ | refine gd_ndec ?_ ?_ | refine qC_dec ?_ ?_ | refine qC_ndec ?_ ?_ | refine piC_dec ?_ ?_ | refine piC_ndec ?_ ?_ | refine zC_dec ?_ ?_ | refine zC_ndec ?_ ?_ | refine zD_dec ?_ ?_ | refine yC_dec ?_ ?_ | refine yC_ndec ?_ ?_ | refine if_dec ?_ ?_ | refine if_ndec ?_ ?_) <;> intro hh) | simp -implicitDefEqProofs (disch := first | omega | assumption) only [go_sem, ↓reduceIte, Nat.reduceEqDiff, Int.reduceEq, Nat.reduceAdd, Nat.reduceSub, Nat.reduceMul, Nat.mul_one, Nat.one_mul, List.length_nil, List.length_cons, List.nil_append, List.cons_append, List.length_append, List.set_cons_zero, List.set_cons_succ, Nat.zero_add, Nat.sub_zero, Option.isNone_none, Option.isNone_some, Int.toNat_natCast, Nat.add_sub_cancel_left, Bool.not_true, Bool.not_false, BitVec.reduceOfInt, Int.reduceToNat, zb_bd] | ((with_reducible first | refine gd_bool ?_ ?_ | refine if_bool ?_ ?_ | refine qC_bool ?_ ?_ | refine piC_bool ?_ ?_ | refine zC_bool ?_ ?_ | refine zD_bool ?_ ?_ | refine yC_bool ?_ ?_) <;> intro hh) | clear hK)
  all_goals first
    | exact Nat.zero_le _
    | (exact VS.sub2 (by simp [Fr.sub, Fr.get, bbL]) rfl)
    | (have hkk : k = 12 := by omega
       subst hkk; exact ⟨(), trivial, trivial, rfl⟩)
    | (refine ⟨j + 1, by omega, by omega, VS.sub2 ?_ rfl⟩
       first
         | (rw [bbL_n1 (by rw [hq]; rfl)]; simp [Fr.sub, Fr.get]; done)
         | (rw [bbL_y (by rw [hq]; rfl) (by rw [hq]; assumption)]; simp [Fr.sub, Fr.get]; done)
         | (rw [bbL_n2 (by rw [hq]; assumption)]; simp [Fr.sub, Fr.get]; done))
    | (have hjj : j = 64 := by omega
       subst hjj
       exact ⟨k + 1, by omega, by omega, VS.sub2 (by simp [Fr.sub, Fr.get]) rfl⟩)
end Go.Tb
end
section
namespace Go.Tb
open Go Go.Proofs
variable {z : Nat × Nat}
set_option maxRecDepth 20000
def brdL (c : Nat → Int) : Nat → List (Int × Int)
  | 0 => []
  | n + 1 => brdL c n ++ if 0 < c n then [((n : Int), c n)] else []
theorem brdL_y {c : Nat → Int} {n : Nat} (h : 0 < c n) : brdL c (n + 1) = brdL c n ++ [((n : Int), c n)] := by rw [brdL, if_pos h]
theorem brdL_n {c : Nat → Int} {n : Nat} (h : ¬ 0 < c n) : brdL c (n + 1) = brdL c n := by rw [brdL, if_neg h, List.append_nil]
theorem lkM_app (l m : List (Int × Int)) (s : Int) : lkM (l ++ m) s = (lkM l s).or (lkM m s) := by
  unfold lkM; rw [List.find?_append]
  cases l.find? (fun p => decide (p.1 = s)) <;> rfl
theorem lkM_brd (c : Nat → Int) : ∀ (n s : Nat), lkM (brdL c n) s = if s < n ∧ 0 < c s then some (c s) else none
  | 0, s => by simp [brdL, lkM]
  | n + 1, s => by
    by_cases h : 0 < c n
    · rw [brdL_y h, lkM_app, lkM_brd c n s]
      by_cases hs : s < n ∧ 0 < c s
      · rw [if_pos hs, if_pos ⟨by omega, hs.2⟩]; rfl
      · rw [if_neg hs]
        by_cases he : s = n
        · subst he; rw [if_pos ⟨by omega, h⟩]; simp [lkM]
        · rw [if_neg (fun h2 => hs ⟨by omega, h2.2⟩)]
          simp [lkM]; omega
    · rw [brdL_n h, lkM_brd c n s]
      by_cases hs : s < n ∧ 0 < c s
      · rw [if_pos hs, if_pos ⟨by omega, hs.2⟩]
      · rw [if_neg hs]
        refine (if_neg fun h2 => hs ⟨?_, h2.2⟩).symm
        rcases Nat.lt_or_ge s n with h3 | h3
        · exact h3
        · have : s = n := by omega
          subst this; exact absurd h2.2 h
theorem lkM_new (c : Nat → Int) (n : Nat) : lkM (brdL c n) n = none := by rw [lkM_brd, if_neg (by omega)]
set_option maxHeartbeats 4000000 in
theorem board_ok (c : Nat → Int) (hb : Bd c) : FnM (Tz z) 37 [.agg (ints .i64 64 c).toArray] [] (fun _ : Unit => True) (fun _ => .pointer (some ⟨102, 0, none⟩)) (fun _ => [.cells (ints .i64 64 c) 22, .obj (mapO (brdL c 64)), .cells (boardL (calcN (nbK (brdL c 64) 12))) 110]) := by
  refine ⟨?_, ?_, fun _ _ o ho => ?_, start [0, 1, 2, 3, 4, 5, 7, 8, 9, 17, 20] Tryz.func37 rfl (by decide) rfl (by kernel_rfl) (by simp [Tryz.f37]) ?_⟩
  · intro u hu
    simp only [List.mem_cons, List.not_mem_nil, or_false] at hu; subst hu
    exact (Pl.agg (ints_pl _ _ _)).wf _
  · intro o ho; cases ho
  · simp at ho; rcases ho with rfl | rfl | rfl <;> rfl
  simp only [Tryz.f37]
  repeat' (first | with_reducible refine loop (c := Code.seq (Code.region 3 _ _) _) (V := [0, 1, 2, 3, 4, 5, 7, 8, 9, 17, 20]) (fun k : Nat => ([(3, .map (some 101)), (7, .agg (ints .i64 64 c).toArray), (8, .int .i64 k)], [.cells (ints .i64 64 c) 22, .obj (mapO (brdL c k))])) (fun k => k ≤ 64) (fun k => 64 - k) 0 (by kernel_rfl) ?_ ?_ (fun k hk => (fun hck => ?_) (hb k)) | (have hck1 := hck (by omega); clear hck) | with_reducible refine mk_ops ?_ | with_reducible refine mu_ops (X := Tz z) (i := 1) (l := brdL c k) (s := (k : Int)) (p := c k) (kt := 57) (et := 90) (ik := .i8) (by kernel_rfl) (by kernel_rfl) (by kernel_rfl) rfl (by kernel_rfl) (by kernel_rfl) (lkM_new c k) ?_ | ((with_reducible refine call_fr (newBoard_ok (brdL c k)) [1] ?_ ?_ ?_ ?_); (· kernel_rfl); (· exact ⟨by kernel_rfl, trivial⟩); (· kernel_rfl); intro xx hx; simp -implicitDefEqProofs only [fixL_eq, setAll_cons, setAll_nil, setAll_nil2, List.map_cons, List.map_nil, rn_cells, rn_ro, rn_any, rn_obj, boardL_map, mvL_map, psL_map, map_ints, List.set_cons_zero, List.set_cons_succ, List.length_cons, List.length_nil, List.drop_succ_cons, List.drop_zero, List.drop_nil, List.append_nil, List.nil_append, List.cons_append, rl_tuple, rl_int, rl_bool, rl_string, rl_ptr, rl_ptr0, rl_slice, rl_slice0, rl_agg, List.map_toArray, Array.map_empty, List.length_append, Nat.zero_add, Nat.reduceAdd, sig, Nat.reduceLT, Nat.reduceSub, ↓reduceIte, List.getElem?_cons_zero, List.getElem?_cons_succ, List.getElem?_nil, Nat.reduceAdd, Nat.add_zero, Nat.sub_self]) | with_reducible refine seq_k fun K hK => ?_ | (with_reducible refine hK _ _ ?_; clear hK) | ((with_reducible first | refine gd_dec ?_ ?_ | refine gd_ndec ?_ ?_ | refine qC_dec ?_ ?_ | refine qC_ndec ?_ ?_ | refine piC_dec ?_ ?_ | refine piC_ndec ?_ ?_ | refine zC_dec ?_ ?_ | refine zC_ndec ?_ ?_ | refine zD_dec ?_ ?_ | refine yC_dec ?_ ?_ | refine yC_ndec ?_ ?_ | refine if_dec ?_ ?_ | refine if_ndec ?_ ?_) <;> intro hh) | simp -implicitDefEqProofs (disch := first | omega | assumption) only [go_sem, ↓reduceIte, Nat.reduceEqDiff, Int.reduceEq, Nat.reduceAdd, Nat.reduceSub, Nat.reduceMul, Nat.mul_one, Nat.one_mul, List.length_nil, List.length_cons, List.nil_append, List.cons_append, List.length_append, List.set_cons_zero, List.set_cons_succ, Nat.zero_add, Nat.sub_zero, Option.isNone_none, Option.isNone_some, Int.toNat_natCast, Nat.add_sub_cancel_left, Bool.not_true, Bool.not_false, BitVec.reduceOfInt, Int.reduceToNat, ] | ((with_reducible first | refine gd_bool ?_ ?_ | refine if_bool ?_ ?_ | refine qC_bool ?_ ?_ | refine piC_bool ?_ ?_ | refine zC_bool ?_ ?_ | refine zD_bool ?_ ?_ | refine yC_bool ?_ ?_) <;> intro hh) | clear hK)
  all_goals first
    | exact Nat.zero_le _
    | (exact VS.sub2 (by simp [Fr.sub, Fr.get]) rfl)
    | (have hkk : k = 64 := by omega
       subst hkk; exact ⟨(), trivial, trivial, rfl⟩)
    | (refine ⟨k + 1, by omega, by omega, VS.sub2 ?_ ?_⟩
       · simp [Fr.sub, Fr.get]
       · rw [brdL_y (by assumption)])
    | (refine ⟨k + 1, by omega, by omega, VS.sub2 ?_ ?_⟩
       · simp [Fr.sub, Fr.get]
       · rw [brdL_n (by assumption)])
end Go.Tb
end
section
namespace Go.Tb
open Go Go.Proofs
variable {z : Nat × Nat}
set_option maxRecDepth 20000
theorem ps_lit (b : Nat) (cr : ByteArray) (h m t e : Int) (k : Bool) : ([.pointer (some ⟨b, 0, none⟩), .string cr, .slice none 0 0, .int .i64 h, .int .i64 m, .int .i8 t, .int .i8 e, .bool k] : List Value) = psL b nilS ⟨cr, h, m, t, e, k⟩ := rfl
theorem psL_s1 (b : Nat) (vm : Value) (D : Pd) (x : ByteArray) : (psL b vm D).set 1 (.string x) = psL b vm { D with cr := x } := rfl
theorem psL_s3 (b : Nat) (vm : Value) (D : Pd) (x : Int) : (psL b vm D).set 3 (.int .i64 x) = psL b vm { D with half := x } := rfl
theorem psL_s4 (b : Nat) (vm : Value) (D : Pd) (x : Int) : (psL b vm D).set 4 (.int .i64 x) = psL b vm { D with mc := x } := rfl
theorem psL_s6 (b : Nat) (vm : Value) (D : Pd) (x : Int) : (psL b vm D).set 6 (.int .i8 x) = psL b vm { D with ep := x } := rfl
def doorD (t : Int) (cr : ByteArray) (ep half full : Int) (B : Brd) : Pd := ⟨cr, half, full, t, ep, inChk ⟨cr, half, full, t, ep, false⟩ B⟩
set_option maxHeartbeats 4000000 in
theorem door_ok (B : Brd) (t ep half full : Int) (cr : ByteArray) (ht : t = 1 ∨ t = 2) (hw : -1 ≤ B.wks ∧ B.wks ≤ 63) (hb : -1 ≤ B.bks ∧ B.bks ≤ 63) :
    FnM (Tz z) 36 [.pointer (some ⟨100, 0, none⟩), .int .i8 t, .string cr, .int .i8 ep, .int .i64 half, .int .i64 full] [.cells (boardL B) 110] (fun _ : Unit => True) (fun _ => .pointer (some ⟨101, 0, none⟩)) (fun _ => [.cells (boardL B) 110, .cells (psL 100 nilS (doorD t cr ep half full B)) 82]) := by
  refine ⟨?_, ?_, fun _ _ o ho => ?_, start [0, 1, 2, 3, 4, 5, 12, 13] Tryz.func36 rfl (by decide) rfl (by kernel_rfl) (by simp [Tryz.f36]) ?_⟩
  · intro u hu
    simp only [List.mem_cons, List.not_mem_nil, or_false] at hu
    rcases hu with rfl | rfl | rfl | rfl | rfl | rfl
    · exact WF_ptrN (by simp)
    · exact wf_int
    · exact wf_str
    · exact wf_int
    · exact wf_int
    · exact wf_int
  · intro o ho
    simp only [List.mem_cons, List.not_mem_nil, or_false] at ho; subst ho
    exact fun u hu => (boardL_pl B u hu).wf _
  · simp at ho; subst ho; rfl
  simp only [Tryz.f36]
  repeat' (first | ((with_reducible refine call_r2 100 (inChk_ok ⟨cr, half, full, t, ep, false⟩ B ht hw hb) ?_ ?_ ?_ ?_ ?_ ?_); (· first | omega | decide); (· first | rfl | assumption | simp; done); (· first | omega | decide); (· first | rfl | assumption | simp; done); (· first | omega | decide)) | ((with_reducible refine qG_r2 100 (inChk_ok ⟨cr, half, full, t, ep, false⟩ B ht hw hb) ?_ ?_ ?_ ?_ ?_ ?_); (· first | omega | decide); (· first | rfl | assumption | simp; done); (· first | omega | decide); (· first | rfl | assumption | simp; done); (· first | omega | decide)) | ((with_reducible refine zG_r2 100 (inChk_ok ⟨cr, half, full, t, ep, false⟩ B ht hw hb) ?_ ?_ ?_ ?_ ?_ ?_); (· first | omega | decide); (· first | rfl | assumption | simp; done); (· first | omega | decide); (· first | rfl | assumption | simp; done); (· first | omega | decide)) | with_reducible refine seq_k fun K hK => ?_ | (with_reducible refine hK _ _ ?_; clear hK) | ((with_reducible first | refine gd_dec ?_ ?_ | refine gd_ndec ?_ ?_ | refine qC_dec ?_ ?_ | refine qC_ndec ?_ ?_ | refine piC_dec ?_ ?_ | refine piC_ndec ?_ ?_ | refine zC_dec ?_ ?_ | refine zC_ndec ?_ ?_ | refine zD_dec ?_ ?_ | refine yC_dec ?_ ?_ | refine yC_ndec ?_ ?_ | refine if_dec ?_ ?_ | refine if_ndec ?_ ?_) <;> intro hh) | simp -implicitDefEqProofs (disch := first | omega | assumption) only [go_sem, ↓reduceIte, Nat.reduceEqDiff, Int.reduceEq, Nat.reduceAdd, Nat.reduceSub, Nat.reduceMul, Nat.mul_one, Nat.one_mul, List.length_nil, List.length_cons, List.nil_append, List.cons_append, List.length_append, List.set_cons_zero, List.set_cons_succ, Nat.zero_add, Nat.sub_zero, Option.isNone_none, Option.isNone_some, Int.toNat_natCast, Nat.add_sub_cancel_left, Bool.not_true, Bool.not_false, BitVec.reduceOfInt, Int.reduceToNat, ps_lit, psL_s1, psL_s3, psL_s4, psL_s6] | ((with_reducible first | refine gd_bool ?_ ?_ | refine if_bool ?_ ?_ | refine qC_bool ?_ ?_ | refine piC_bool ?_ ?_ | refine zC_bool ?_ ?_ | refine zD_bool ?_ ?_ | refine yC_bool ?_ ?_) <;> intro hh) | clear hK)
  exact ⟨(), trivial, trivial, rfl⟩
end Go.Tb
end
