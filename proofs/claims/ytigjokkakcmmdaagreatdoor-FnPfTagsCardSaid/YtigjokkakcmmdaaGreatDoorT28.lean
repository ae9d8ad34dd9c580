/-
  A part of the proof (my own): of the texts that the claim's last text rests on: parts P19, P20, Q1, Q2.
-/
import Derived.Test.YtigjokkakcmmdaaGreatDoorTie
import Derived.Test.YtigjokkakcmmdaaGreatDoorCards
import Derived.ProofKit
import Derived.OpenShut
import Derived.LaidMore
import Derived.Lay
import Derived.SevenTiedAt
import Derived.Stop.Joined
import Derived.ChangeSame
import Derived.RowKit
import Derived.Lib.LaidU8
import Derived.Test.YtigjokkakcmmdaaGreatDoorT25
import Derived.Test.YtigjokkakcmmdaaGreatDoorT27
set_option linter.unusedSimpArgs false
set_option linter.unusedVariables false
section
namespace Go.Tb
open Go Go.Proofs
set_option maxRecDepth 20000
attribute [local irreducible] tg4 madeC updB attB inChk
theorem leg_perm (c : Nat → Int) : (legL c).Perm ((pseuK c 64 ++ castL c).filter (legB c)) := (ordL_perm _).filter _
theorem perm_lift {α β : Type} {f : α → β} {x m : List β} (h : x.Perm m) : ∀ l : List α, l.map f = x → ∃ l', l.Perm l' ∧ l'.map f = m := by
  induction h with
  | nil => intro l hl; exact ⟨l, List.Perm.refl _, hl⟩
  | cons a _ ih =>
    intro l hl
    cases l with
    | nil => cases hl
    | cons b l =>
      simp only [List.map_cons, List.cons.injEq] at hl
      obtain ⟨l', h1, h2⟩ := ih l hl.2
      exact ⟨b :: l', h1.cons b, by rw [List.map_cons, hl.1, h2]⟩
  | swap a b t =>
    intro l hl
    match l, hl with
    | x :: y :: l, hl =>
      simp only [List.map_cons, List.cons.injEq] at hl
      exact ⟨y :: x :: l, List.Perm.swap y x l, by rw [List.map_cons, List.map_cons, hl.1, hl.2.1, hl.2.2]⟩
  | trans _ _ ih1 ih2 =>
    intro l hl
    obtain ⟨l1, a1, a2⟩ := ih1 l hl
    obtain ⟨l2, b1, b2⟩ := ih2 l1 a2
    exact ⟨l2, a1.trans b1, b2⟩
def sumL (g : Mv → Int) : List Mv → Int
  | [] => 0
  | M :: l => g M + sumL g l
theorem sumL_perm {g : Mv → Int} {l m : List Mv} (h : l.Perm m) : sumL g l = sumL g m := by
  induction h with
  | nil => rfl
  | cons a _ ih => simp only [sumL, ih]
  | swap a b t => simp only [sumL]; omega
  | trans _ _ ih1 ih2 => rw [ih1, ih2]
theorem sumL_app (g : Mv → Int) : ∀ l m : List Mv, sumL g (l ++ m) = sumL g l + sumL g m
  | [], m => by simp [sumL]
  | a :: l, m => by simp only [List.cons_append, sumL, sumL_app g l m]; omega
theorem sumK_L (g : Mv → Int) (l : List Mv) : ∀ k : Nat, k ≤ l.length → sumK (fun i => g (vAt l i)) k = sumL g (l.take k)
  | 0, _ => by simp [sumK, sumL]
  | k + 1, h => by
    rw [sumK, sumK_L g l k (by omega), List.take_add_one, vAt_get (by omega), Option.toList_some, sumL_app]
    simp [sumL]
theorem half_step (l : List UInt8) (D : Pd) (M : Mv) (B : Brd) {N : Int} (hh : 0 ≤ D.half ∧ D.half ≤ N) : 0 ≤ (updD l D M B).half ∧ (updD l D M B).half ≤ N + 1 := by
  show 0 ≤ halfUp D M B ∧ halfUp D M B ≤ N + 1
  unfold halfUp; split <;> omega
theorem mc_step (l : List UInt8) (D : Pd) (M : Mv) (B : Brd) {N : Int} (hh : 0 ≤ D.mc ∧ D.mc ≤ N) : 0 ≤ (updD l D M B).mc ∧ (updD l D M B).mc ≤ N + 1 := by
  show 0 ≤ mcUp D ∧ mcUp D ≤ N + 1
  unfold mcUp; split <;> omega
theorem zeroF_at (i : Nat) (x : Int) : zeroF i + x = x := by unfold zeroF; omega
def CntC (d : Nat) : Prop := ∀ (c : Nat → Int) (s : PSt) (w N : Int), InvC c → RepS c s → (0 ≤ s.2.1.half ∧ s.2.1.half ≤ N) → (0 ≤ s.2.1.mc ∧ s.2.1.mc ≤ N) → N + d ≤ 1000000 → (tallyF (d + 1) c w).2.1 = true → PfOk (d + 1) s ∧ pfN (d + 1) s = (tallyF (d + 1) c w).1 0
attribute [local irreducible] pfN tallyF sumL allS legL tLoop gOne gMore
theorem nxt_half (s : PSt) (M : Mv) {N : Int} (hh : 0 ≤ s.2.1.half ∧ s.2.1.half ≤ N) : 0 ≤ (nxt s M).2.1.half ∧ (nxt s M).2.1.half ≤ N + 1 := half_step s.1 s.2.1 M s.2.2 hh
theorem nxt_mc (s : PSt) (M : Mv) {N : Int} (hh : 0 ≤ s.2.1.mc ∧ s.2.1.mc ≤ N) : 0 ≤ (nxt s M).2.1.mc ∧ (nxt s M).2.1.mc ≤ N + 1 := mc_step s.1 s.2.1 M s.2.2 hh
attribute [local irreducible] nxt
theorem posOk_of {c : Nat → Int} (hi : InvC c) (h1 : 0 ≤ c 67 ∧ c 67 ≤ 1000000) (h2 : 0 ≤ c 68 ∧ c 68 ≤ 1000000) : PosOk c :=
  ⟨hi.bd, hi.pawns, hi.turn, hi.cast, h1, h2⟩
theorem leg_kind {c : Nat → Int} (hi : InvC c) {m : M3} (hm : m ∈ legL c) : KindM c m ∧ legB c m = true := by
  have h1 : m ∈ (pseuK c 64 ++ castL c).filter (legB c) := (leg_perm c).mem_iff.1 hm
  obtain ⟨h2, h3⟩ := List.mem_filter.1 h1
  refine ⟨?_, h3⟩
  rcases List.mem_append.1 h2 with h | h
  · obtain ⟨f, t, hf, ht, ho, h4, h5, e1, e2, hp⟩ := (pseu_iff hi).1 h
    by_cases hps : psP c f t
    · obtain ⟨e, he⟩ := mvE_of hi hf ht ho h4 h5 hps
      have hnl : ¬ lastR c f t := fun hl => last_nops hi hl h4 hf ht ho h5 hps
      exact .e f t e he e1 e2 ((promOk_n hnl).1 hp)
    · refine .n f t (mvN_of hi hf ht ho h4 h5 ?_ hps) h4 hp e1 e2
      by_cases hl : lastR c f t
      · exact .inr ⟨(promOk_y hl).1 hp, hl.1⟩
      · exact .inl ((promOk_n hl).1 hp)
  · have hc : ∀ n r0 : Nat, m ∈ castK c r0 n → ∃ k : Nat, k < n ∧ castP c (r0 + k) ∧ m = (homeK (r0 + k : Nat), homeK (r0 + k : Nat) + 2 * cW (r0 + k : Nat), 0) := by
      intro n r0
      induction n with
      | zero => intro h; simp [castK] at h
      | succ n ih =>
        intro h
        rw [castK, List.mem_append] at h
        rcases h with h | h
        · obtain ⟨k, a, b⟩ := ih h; exact ⟨k, by omega, b⟩
        · split at h
          · simp only [List.mem_singleton] at h
            exact ⟨n, by omega, by assumption, h⟩
          · cases h
    have h64 := hi.turn
    obtain ⟨k, k1, k2, k3⟩ := hc 2 _ h
    have hr : (2 * c 64).toNat + k < 4 := by omega
    obtain ⟨e1, e2, e3, e4⟩ := home_nat hr
    rw [e4, e1] at k3
    subst k3
    have hok := (castP_iff hi hr (by omega)).1 ⟨k2, h3⟩
    exact .k _ (hok.mv hi hr).toMvK rfl rfl rfl
theorem posD_law : ∀ (d : Nat) (c : Nat → Int) (N : Int), InvC c → (0 ≤ c 67 ∧ c 67 ≤ N) → (0 ≤ c 68 ∧ c 68 ≤ N) → N + d ≤ 1000000 → PosD d c
  | 0, c, N, hi, h1, h2, hN => posOk_of hi (by omega) (by omega)
  | d + 1, c, N, hi, h1, h2, hN => by
    refine ⟨posOk_of hi (by omega) (by omega), fun m hm => ?_⟩
    obtain ⟨hk, hl⟩ := leg_kind hi hm
    have h64 := hi.turn
    have e67 : madeM c m 67 = mdHalf c m.1 m.2.1 := by unfold madeM; rw [madeC_67]
    have e68 : madeM c m 68 = c 68 + c 64 := by unfold madeM; rw [madeC_68]
    refine posD_law d (madeM c m) (N + 1) (inv_step hi hk hl) ?_ (by rw [e68]; omega) (by omega)
    rw [e67]; unfold mdHalf; split <;> omega
end Go.Tb
end
section
namespace Go.Tb
open Go Go.Proofs
set_option maxRecDepth 20000
attribute [local irreducible] tg4 madeC updB attB inChk
theorem bbL_bit (l : List (Int × Int)) (p : Int) : ∀ n : Nat, n ≤ 64 → ∀ j : Nat, j < 64 → (bbL l p n).getLsbD j = (decide (j < n) && decide (lkM l ((n - 1 - j : Nat) : Int) = some p))
  | 0, _, j, _ => by simp [bbL]
  | n + 1, hn, j, hj => by
    have hc : (((lkM l n).isSome && decide (p = (lkM l n).getD 0)) = true) ↔ lkM l n = some p := by
      rw [Bool.and_eq_true, decide_eq_true_eq]
      cases lkM l n with
      | none => simp
      | some v => simp [eq_comm]
    have hsh : ((bbL l p n) <<< 1).getLsbD j = (decide (1 ≤ j) && (bbL l p n).getLsbD (j - 1)) := by
      rw [BitVec.getLsbD_shiftLeft, decide_eq_true hj, Bool.true_and]
      by_cases h1 : j < 1
      · rw [decide_eq_true h1, decide_eq_false (by omega : ¬ 1 ≤ j)]; rfl
      · rw [decide_eq_false h1, decide_eq_true (by omega : 1 ≤ j)]; rfl
    have h1b : (1#64).getLsbD j = decide (j = 0) := by
      have : ∀ j : Fin 64, (1#64).getLsbD j.val = decide (j.val = 0) := by decide +kernel
      exact this ⟨j, hj⟩
    by_cases h0 : j = 0
    · subst h0
      rw [bbL]
      rw [show n + 1 - 1 - 0 = n by omega, decide_eq_true (by omega : 0 < n + 1), Bool.true_and]
      by_cases hx : lkM l n = some p
      · rw [if_pos (hc.2 hx), BitVec.getLsbD_or, h1b, hx]; simp
      · rw [if_neg (fun e => hx (hc.1 e)), hsh, decide_eq_false hx]; rfl
    · have e : (bbL l p (n + 1)).getLsbD j = (bbL l p n).getLsbD (j - 1) := by
        rw [bbL]
        split
        · rw [BitVec.getLsbD_or, hsh, h1b, decide_eq_false h0, Bool.or_false, decide_eq_true (by omega : 1 ≤ j), Bool.true_and]
        · rw [hsh, decide_eq_true (by omega : 1 ≤ j), Bool.true_and]
      rw [e, bbL_bit l p n (by omega) (j - 1) (by omega)]
      congr 1
      · exact decide_eq_decide.2 (by omega)
      · rw [show n - 1 - (j - 1) = n + 1 - 1 - j by omega]
theorem nbK_f (l : List (Int × Int)) : ∀ n : Nat, n ≤ 12 → ∀ k : Nat, k < 12 → (nbK l n).f k = if k < n then bbL l ((k : Int) + 1) 64 else 0#64
  | 0, _, k, hk => by
    rw [if_neg (by omega)]
    rcases k12 hk with rfl | rfl | rfl | rfl | rfl | rfl | rfl | rfl | rfl | rfl | rfl | rfl <;> rfl
  | n + 1, hn, k, hk => by
    rw [nbK_get, putP_f _ _ (by omega) hk, nbK_f l n (by omega) k hk]
    by_cases h : k = n
    · subst h; rw [if_pos rfl, if_pos (by omega)]
    · rw [if_neg (by omega)]
      by_cases h2 : k < n
      · rw [if_pos h2, if_pos (by omega)]
      · rw [if_neg h2, if_neg (by omega)]
theorem lastK_eq {p : Nat → Bool} {k : Nat} (hp : p k = true) : ∀ n : Nat, k < n → (∀ i, i < n → p i = true → i = k) → lastK p n = k
  | 0, h, _ => by omega
  | n + 1, h, hu => by
    rw [lastK]
    by_cases hn : p n = true
    · rw [if_pos hn]; have := hu n (by omega) hn; omega
    · rw [if_neg hn]
      refine lastK_eq hp n ?_ fun i hi => hu i (by omega)
      rcases Nat.lt_or_ge k n with h1 | h1
      · exact h1
      · have : k = n := by omega
        subst this; exact absurd hp hn
section
variable {c : Nat → Int}
theorem brdC_f (hb : Bd c) : RepF c (nbK (brdL c 64) 12) := by
  intro k hk s hs
  rw [nbK_f _ 12 (Nat.le_refl _) k hk, if_pos hk, occ_nat _ hs, bbL_bit _ _ 64 (Nat.le_refl _) _ (by omega), decide_eq_true (by omega : 63 - s < 64), Bool.true_and, show 64 - 1 - (63 - s) = s by omega, lkM_brd]
  have := hb s hs
  by_cases h : s < 64 ∧ 0 < c s
  · rw [if_pos h]
    exact decide_eq_decide.2 (by rw [Option.some.injEq])
  · rw [if_neg h, decide_eq_false (by simp)]
    exact (decide_eq_false (by omega)).symm
theorem calcN_f (B : Brd) (k : Nat) : (calcN B).f k = B.f k := by
  rcases Nat.lt_or_ge k 12 with h | h
  · rcases k12 h with rfl | rfl | rfl | rfl | rfl | rfl | rfl | rfl | rfl | rfl | rfl | rfl <;> rfl
  · unfold Brd.f; split <;> first | omega | rfl
theorem calcN_rep (hi : InvC c) {X : Brd} (hf : RepF c X) : RepB c (calcN X) := by
  have h0 : ∀ s : Nat, s < 64 → occB X.wk s = decide (c s = 1) := fun s hs => hf 0 (by decide) s hs
  have h1 : ∀ s : Nat, s < 64 → occB X.bk s = decide (c s = 7) := fun s hs => hf 6 (by decide) s hs
  refine ⟨fun k hk s hs => ?_, rfl, rfl, rfl, ?_, ?_⟩
  · rw [calcN_f]; exact hf k hk s hs
  · obtain ⟨k, k1, k2, k3, k4⟩ := hi.kingAt (b := 0) (.inl rfl)
    show lastK (fun k => occB X.wk k) 64 = _
    rw [k3]
    refine lastK_eq (by rw [h0 k k1]; exact decide_eq_true (by omega)) 64 k1 fun i hi' e => ?_
    rw [h0 i hi', decide_eq_true_eq] at e
    exact k4 i hi' (by omega)
  · obtain ⟨k, k1, k2, k3, k4⟩ := hi.kingAt (b := 1) (.inr rfl)
    show lastK (fun k => !occB X.wk k && occB X.bk k) 64 = _
    rw [k3]
    refine lastK_eq (by rw [h0 k k1, h1 k k1, decide_eq_false (by omega), decide_eq_true (by omega)]; rfl) 64 k1 fun i hi' e => ?_
    rw [h1 i hi', Bool.and_eq_true, decide_eq_true_eq] at e
    exact k4 i hi' (by omega)
theorem brdC_rep (hi : InvC c) : RepB c (brdC c) := calcN_rep hi (brdC_f hi.bd)
theorem crs_mem {x : Int} {r : Nat} (hr : r < 4) : ∀ n : Nat, n ≤ 4 → (rL r ∈ crs x n ↔ r < n ∧ bitI x r = 1)
  | 0, _ => by simp [crs]
  | n + 1, h => by
    rw [crs, List.mem_append, crs_mem hr n (by omega)]
    have hk : rL r = kqC n ↔ r = n := by
      have hr4 : r = 0 ∨ r = 1 ∨ r = 2 ∨ r = 3 := by omega
      have hn4 : n = 0 ∨ n = 1 ∨ n = 2 ∨ n = 3 := by omega
      rcases hr4 with rfl | rfl | rfl | rfl <;> rcases hn4 with rfl | rfl | rfl | rfl <;> decide
    constructor
    · rintro (⟨a, b⟩ | h2)
      · exact ⟨by omega, b⟩
      · split at h2
        · rw [List.mem_singleton, hk] at h2
          subst h2; exact ⟨by omega, by assumption⟩
        · cases h2
    · rintro ⟨a, b⟩
      rcases Nat.lt_or_ge r n with h1 | h1
      · exact .inl ⟨h1, b⟩
      · have : r = n := by omega
        subst this
        right; rw [if_pos b, List.mem_singleton, hk]
theorem rep_init (hi : InvC c) : RepS c (stC c) := by
  have h64 := hi.turn
  have hb := brdC_rep hi
  refine ⟨⟨hb, rfl, rfl⟩, ?_, fun r hr => ?_, rfl, ?_⟩
  · obtain ⟨k, k1, k2, k3, k4⟩ := hi.kingAt (b := c 64) (by omega)
    show inChk ⟨byt (crT (c 65)), c 67, c 68, c 64 + 1, c 66, false⟩ (brdC c) = _
    rw [inChk_iff hb hi.bd (s := c 64) (by omega) rfl k1 k3, k3]
  · rw [Bool.eq_iff_iff, can_iff hr, decide_eq_true_eq]
    show rL r ∈ crT (c 65) ↔ _
    unfold crT
    by_cases hn : crs (c 65) 4 = []
    · rw [if_pos hn]
      have h := crs_mem (x := c 65) hr 4 (Nat.le_refl _)
      rw [hn] at h
      constructor
      · intro h2
        have hr4 : r = 0 ∨ r = 1 ∨ r = 2 ∨ r = 3 := by omega
        exfalso
        rcases hr4 with rfl | rfl | rfl | rfl <;> revert h2 <;> decide
      · intro h2
        have := h.2 ⟨hr, h2⟩
        cases this
    · rw [if_neg hn, crs_mem hr 4 (Nat.le_refl _)]
      exact ⟨fun h => h.2, fun h => ⟨hr, h⟩⟩
  · show (crT (c 65)).length ≤ 1000
    unfold crT
    split
    · decide
    · have := crs_len (c 65) 4; omega
theorem posD_right {d : Nat} (hr : RightC c) (hd : d ≤ 5) : PosD d c := by
  have h1 := hr.v.half
  have h2 := hr.v.full
  have h3 := hr.half
  have h4 := hr.full
  exact posD_law d c 1000 (inv_of_valid hr.v) ⟨h1, h3⟩ ⟨by omega, h4⟩ (by omega)
end
end Go.Tb
end
section
set_option maxRecDepth 100000
namespace Go.Tb
open Go Go.Proofs Go.Lib Go.ChangeShapes Go.WideShapes Go.ChangeAt Go.RowKit
def litI {H : Type} (k : IntKind) (zs : List Int) : List (DataW H) := zs.map fun z => .lit (.int k z)
theorem tabV {P : Program} {W : World} {n : String} {g : Nat} {t e : TypeId} {k : IntKind} {m : Nat} {zs : List Int} (hg : P.globalNamed n = some g) (hty : (P.globals[g]?).map (·.type) = some t)
    (ht : P.underlying t = some (.array m e)) (he : P.underlying e = some (.int k)) (hce : P.cellsOf e = 1) (hct : P.cellsOf t = m) (h : VarReads P W n (.agg (litI k zs))) :
    (∀ (j : Nat) (z : Int), zs[j]? = some z → W.cell? ⟨g, 0 + j, none⟩ = some (.int k z)) ∧ g < W.heap.size := by
  obtain ⟨g', t', cs, fuel, p, hg', hty', hvar, hd⟩ := h
  obtain rfl := Option.some.inj (hg.symm.trans hg')
  obtain rfl := Option.some.inj (hty.symm.trans hty')
  have e1 := cells_of_tab ht he hce hct hd
  constructor
  · intro j z hj
    rw [Nat.zero_add, World.var?_cell hg hvar j, ← Array.getElem?_toList, e1, List.getElem?_map, hj]
    rfl
  · unfold World.var? at hvar
    rw [hg] at hvar
    simp only [Option.bind_some] at hvar
    split at hvar
    · rename_i h1
      exact (Array.getElem?_eq_some_iff.1 h1).1
    · cases hvar
theorem sliV {P : Program} {W : World} {n : String} {g : Nat} {t e : TypeId} {k : IntKind} {zs : List Int} (hg : P.globalNamed n = some g) (hty : (P.globals[g]?).map (·.type) = some t)
    (ht : P.underlying t = some (.slice e)) (he : P.underlying e = some (.int k)) (hce : P.cellsOf e = 1) (hl : 0 < zs.length) (h : VarReads P W n (.slice (litI k zs) [])) :
    ∃ b off : Nat, W.cell? ⟨g, 0, none⟩ = some (.slice (some ⟨b, off, none⟩) zs.length zs.length) ∧ (∀ (j : Nat) (z : Int), zs[j]? = some z → W.cell? ⟨b, off + j, none⟩ = some (.int k z)) ∧ g < W.heap.size ∧ b < W.heap.size := by
  obtain ⟨g', t', cs, fuel, p, hg', hty', hvar, hd⟩ := h
  obtain rfl := Option.some.inj (hg.symm.trans hg')
  obtain rfl := Option.some.inj (hty.symm.trans hty')
  rcases open_ints ht he hce hd with ⟨_, hx⟩ | ⟨a, len, cap, ys, hcs, _, hlc, _, hyl, hx, hcell, _⟩
  · cases hx
  have e0 := congrArg Prod.fst hx
  simp only [DataW.slice.injEq] at e0
  obtain ⟨eE, eR⟩ := e0
  have hinj : ∀ (l1 l2 : List Int), (litI k l1 : List (DataW Unit)) = lits k l2 → l1 = l2 := by
    intro l1
    induction l1 with
    | nil => intro l2 h; cases l2 with | nil => rfl | cons _ _ => cases h
    | cons x l ih =>
      intro l2 h
      cases l2 with
      | nil => cases h
      | cons y l' =>
        simp only [litI, lits, List.map_cons, List.cons.injEq, DataW.lit.injEq, Lit.int.injEq, true_and] at h
        obtain ⟨rfl, h2⟩ := h
        rw [ih l' h2]
  have e3 := hinj _ _ eE
  have e4 := hinj [] _ eR
  have hys : ys = zs := by rw [← List.take_append_drop len ys, ← e4, ← e3]; simp
  subst hys
  simp only [if_true] at hyl
  have hlen : len = ys.length := by
    have := congrArg List.length e3
    rw [List.length_take] at this; omega
  obtain ⟨b, off, rfl, hc⟩ := ints_at hcell hl
  refine ⟨b, off, ?_, fun j z hj => ?_, ?_, ?_⟩
  · have hcap : cap = ys.length := hyl.symm
    rw [World.var?_cell hg hvar 0, ← Array.getElem?_toList, hcs, hcap, hlen]; rfl
  · have hj' := (List.getElem?_eq_some_iff.1 hj).1
    rw [hc j hj', List.getD, hj]; rfl
  · unfold World.var? at hvar
    rw [hg] at hvar
    simp only [Option.bind_some] at hvar
    split at hvar
    · rename_i h1
      exact (Array.getElem?_eq_some_iff.1 h1).1
    · cases hvar
  · have := hc 0 hl
    unfold World.cell? at this
    cases hb : W.heap[b]? with
    | none => simp [hb] at this
    | some _ => exact (Array.getElem?_eq_some_iff.1 hb).1
structure Mem (W : World) (z : Nat × Nat) (b1 b2 : Nat) : Prop where
  g0 : W.cell? ⟨0, 0, none⟩ = some (.slice (some ⟨b1, z.1, none⟩) 12 12)
  g1 : W.cell? ⟨1, 0, none⟩ = some (.slice (some ⟨b2, z.2, none⟩) 4 4)
  g2 : ∀ (j : Nat) (x : Int), bbKnightMoves[j]? = some x → W.cell? ⟨2, 0 + j, none⟩ = some (.int .u64 x)
  g3 : ∀ (j : Nat) (x : Int), bbKingMoves[j]? = some x → W.cell? ⟨3, 0 + j, none⟩ = some (.int .u64 x)
  g4 : ∀ (j : Nat) (x : Int), bbDiagonals[j]? = some x → W.cell? ⟨4, 0 + j, none⟩ = some (.int .u64 x)
  g5 : ∀ (j : Nat) (x : Int), bbAntiDiagonals[j]? = some x → W.cell? ⟨5, 0 + j, none⟩ = some (.int .u64 x)
  g6 : ∀ (j : Nat) (x : Int), bbRanks[j]? = some x → W.cell? ⟨6, 0 + j, none⟩ = some (.int .u64 x)
  g7 : ∀ (j : Nat) (x : Int), bbFiles[j]? = some x → W.cell? ⟨7, 0 + j, none⟩ = some (.int .u64 x)
  s1 : ∀ (j : Nat) (x : Int), ([1, 2, 3, 4, 5, 6, 7, 8, 9, 10, 11, 12] : List Int)[j]? = some x → W.cell? ⟨b1, z.1 + j, none⟩ = some (.int .i8 x)
  s2 : ∀ (j : Nat) (x : Int), ([2, 3, 4, 5] : List Int)[j]? = some x → W.cell? ⟨b2, z.2 + j, none⟩ = some (.int .i8 x)
  lt : 12 ≤ W.heap.size
  l1 : b1 < W.heap.size
  l2 : b2 < W.heap.size
def renM (b1 b2 : Nat) : Nat → Nat := fun i => if i < 12 then i else if i = 12 then b1 else if i = 13 then b2 else 0
theorem simM {W : World} {z : Nat × Nat} {b1 b2 : Nat} (h : Mem W z b1 b2) : Sim (Tz z).ng (renM b1 b2) ((Tz z).pad ++ []) W := by
  rw [List.append_nil]
  have hpad : (Tz z).pad = padL z := rfl
  have hng : (Tz z).ng = 12 := rfl
  have hro : ∀ (i b : Nat) (c : List Value), (padL z)[i]? = some (.ro b c) → ∀ v ∈ c, WF (padL z).length v := fun i b c hi => by
    have := (Tz z).wf i b c hi
    have h1 : (padL z).length = 100 := (Tz z).len
    rw [h1]; exact this
  refine ⟨by rw [hng, (Tz z).len]; omega, fun g hg => ?_, fun i j o hi hw => ?_, fun i hi => ?_, fun i c T hi => ?_, fun i b c hi => ⟨fun j v hj => ?_, hro i b c hi⟩, fun i o hi => ?_⟩
  · rw [hng] at hg; unfold renM; rw [if_pos hg]
  · have := (Tz z).ro i o hi; rw [this] at hw; cases hw
  · have h1 := h.lt; have h2 := h.l1; have h3 := h.l2
    unfold renM; split
    · omega
    · split
      · exact h2
      · split
        · exact h3
        · omega
  · have := (Tz z).ro i _ hi; cases this
  · have hi0 := hi
    rw [hpad] at hi
    have h14 : i < 14 := by
      by_cases h14 : i < 14
      · exact h14
      · unfold padL at hi
        rw [List.getElem?_append_right (by simp; omega)] at hi
        have := List.eq_of_mem_replicate (List.mem_of_getElem? hi)
        cases this
    have hu : ∀ (l : List Int) (k : IntKind) (g o : Nat), (∀ (j : Nat) (x : Int), l[j]? = some x → W.cell? ⟨g, o + j, none⟩ = some (.int k x)) → ∀ (j : Nat) (v : Value), (l.map (Value.int k))[j]? = some v → W.cell? ⟨g, o + j, none⟩ = some (rl (renM b1 b2) v) := by
      intro l k g o hl j v hv
      rw [List.getElem?_map, Option.map_eq_some_iff] at hv
      obtain ⟨x, hx, rfl⟩ := hv
      rw [rl_int]; exact hl j x hx
    have hcase : i = 0 ∨ i = 1 ∨ i = 2 ∨ i = 3 ∨ i = 4 ∨ i = 5 ∨ i = 6 ∨ i = 7 ∨ i = 8 ∨ i = 9 ∨ i = 10 ∨ i = 11 ∨ i = 12 ∨ i = 13 := by omega
    rcases hcase with rfl | rfl | rfl | rfl | rfl | rfl | rfl | rfl | rfl | rfl | rfl | rfl | rfl | rfl
    · have e := (pad0 z).symm.trans hi0
      simp only [Option.some.injEq, AO.ro.injEq] at e
      obtain ⟨rfl, rfl⟩ := e
      cases j with
      | zero => simp only [List.getElem?_cons_zero, Option.some.injEq] at hj; subst hj; rw [rl_slice]; exact h.g0
      | succ j => simp at hj
    · have e := (pad1 z).symm.trans hi0
      simp only [Option.some.injEq, AO.ro.injEq] at e
      obtain ⟨rfl, rfl⟩ := e
      cases j with
      | zero => simp only [List.getElem?_cons_zero, Option.some.injEq] at hj; subst hj; rw [rl_slice]; exact h.g1
      | succ j => simp at hj
    · have e := (pad2 z).symm.trans hi0
      simp only [Option.some.injEq, AO.ro.injEq] at e
      obtain ⟨rfl, rfl⟩ := e
      exact hu _ _ _ _ h.g2 j v hj
    · have e := (pad3 z).symm.trans hi0
      simp only [Option.some.injEq, AO.ro.injEq] at e
      obtain ⟨rfl, rfl⟩ := e
      exact hu _ _ _ _ h.g3 j v hj
    · have e := (pad4 z).symm.trans hi0
      simp only [Option.some.injEq, AO.ro.injEq] at e
      obtain ⟨rfl, rfl⟩ := e
      exact hu _ _ _ _ h.g4 j v hj
    · have e := (pad5 z).symm.trans hi0
      simp only [Option.some.injEq, AO.ro.injEq] at e
      obtain ⟨rfl, rfl⟩ := e
      exact hu _ _ _ _ h.g5 j v hj
    · have e := (pad6 z).symm.trans hi0
      simp only [Option.some.injEq, AO.ro.injEq] at e
      obtain ⟨rfl, rfl⟩ := e
      exact hu _ _ _ _ h.g6 j v hj
    · have e := (pad7 z).symm.trans hi0
      simp only [Option.some.injEq, AO.ro.injEq] at e
      obtain ⟨rfl, rfl⟩ := e
      exact hu _ _ _ _ h.g7 j v hj
    · have e : (some AO.any) = some (AO.ro b c) := hi; cases e
    · have e : (some AO.any) = some (AO.ro b c) := hi; cases e
    · have e : (some AO.any) = some (AO.ro b c) := hi; cases e
    · have e : (some AO.any) = some (AO.ro b c) := hi; cases e
    · have e := (pad12 z).symm.trans hi0
      simp only [Option.some.injEq, AO.ro.injEq] at e
      obtain ⟨rfl, rfl⟩ := e
      exact hu _ _ _ _ h.s1 j v hj
    · have e := (pad13 z).symm.trans hi0
      simp only [Option.some.injEq, AO.ro.injEq] at e
      obtain ⟨rfl, rfl⟩ := e
      exact hu _ _ _ _ h.s2 j v hj
  · have := (Tz z).ro i _ hi; cases this
theorem callW {f : FuncId} {W : World} {z : Nat × Nat} {b1 b2 : Nat} {vs : List Value} {v : Value} (h : Mem W z b1 b2) (hF : FnP (Tz z) f vs v) :
    Calls Tryz.prog f vs.toArray W fun e w' => e = .returned v ∧ Below W.heap.size W w' := by
  have h1 := hF.call.2 _ W (simM h) fun u hu => (hF.args u hu).wf _
  rw [map_pl hF.args] at h1
  refine h1.mono fun e w' ⟨ρ', u, L', he, hu, _, _, hx⟩ => ?_
  subst hu
  refine ⟨by rw [he, hF.res], hx.os, hx.tape, hx.output, hx.size, fun k hk => hx.keep k hk fun i o hi hw => ?_⟩
  rw [List.append_nil] at hi
  have := (Tz z).ro i o hi; rw [this] at hw; cases hw
end Go.Tb
end
section
set_option maxRecDepth 100000
namespace Go.Tb
open Go Go.Proofs Go.Lib Go.ChangeShapes Go.WideShapes Go.ChangeAt Go.RowKit Go.Proofs.YtigjokkakcmmdaaGreatDoor
def laidQ : List (String × DataW Unit) := Rows.fnPfCountRow.laid
theorem memQ {W : World} (h : laidMetH Tryz.prog laidQ W) : ∃ z b1 b2, Mem W z b1 b2 := by
  rw [MakeChecks.laidMetH_plain _ _ _ (by kernel_rfl)] at h
  have m : ∀ {n : String} {d : DataW Unit}, (n, d) ∈ laidQ → VarReads Tryz.prog W n d := fun hm => Lib.laidMet.reads h hm
  have c108 : Tryz.prog.cellsOf 108 = 1 := by kernel_rfl
  obtain ⟨b1, o1, a1, a2, _, a4⟩ := sliV (g := 0) (t := 112) (e := 90) (k := .i8) (zs := [1, 2, 3, 4, 5, 6, 7, 8, 9, 10, 11, 12]) (by kernel_rfl) (by kernel_rfl) Tryz.underlying112 Tryz.underlying90 (by kernel_rfl) (by decide) (m (n := "pub-tabiya/pub/chess.allPieces") (.tail _ (.tail _ (.tail _ (.tail _ (.tail _ (.tail _ (.tail _ (.tail _ (.head _))))))))))
  obtain ⟨b2, o2, d1, d2, _, d4⟩ := sliV (g := 1) (t := 130) (e := 58) (k := .i8) (zs := [2, 3, 4, 5]) (by kernel_rfl) (by kernel_rfl) Tryz.underlying130 Tryz.underlying58 (by kernel_rfl) (by decide) (m (n := "pub-tabiya/pub/chess.promoPieceTypes") (.tail _ (.head _)))
  have t2 := tabV (g := 2) (t := 143) (zs := bbKnightMoves) (by kernel_rfl) (by kernel_rfl) Tryz.underlying143 Tryz.underlying108 c108 (by kernel_rfl) (m (n := "pub-tabiya/pub/chess.bbKnightMoves") (.tail _ (.tail _ (.tail _ (.tail _ (.tail _ (.tail _ (.head _))))))))
  have t3 := tabV (g := 3) (t := 143) (zs := bbKingMoves) (by kernel_rfl) (by kernel_rfl) Tryz.underlying143 Tryz.underlying108 c108 (by kernel_rfl) (m (n := "pub-tabiya/pub/chess.bbKingMoves") (.tail _ (.tail _ (.tail _ (.tail _ (.tail _ (.tail _ (.tail _ (.head _)))))))))
  have t4 := tabV (g := 4) (t := 143) (zs := bbDiagonals) (by kernel_rfl) (by kernel_rfl) Tryz.underlying143 Tryz.underlying108 c108 (by kernel_rfl) (m (n := "pub-tabiya/pub/chess.bbDiagonals") (.tail _ (.tail _ (.tail _ (.tail _ (.head _))))))
  have t5 := tabV (g := 5) (t := 143) (zs := bbAntiDiagonals) (by kernel_rfl) (by kernel_rfl) Tryz.underlying143 Tryz.underlying108 c108 (by kernel_rfl) (m (n := "pub-tabiya/pub/chess.bbAntiDiagonals") (.tail _ (.tail _ (.tail _ (.tail _ (.tail _ (.head _)))))))
  have t6 := tabV (g := 6) (t := 149) (zs := bbRanks) (by kernel_rfl) (by kernel_rfl) Tryz.underlying149 Tryz.underlying108 c108 (by kernel_rfl) (m (n := "pub-tabiya/pub/chess.bbRanks") (.tail _ (.tail _ (.tail _ (.head _)))))
  have t7 := tabV (g := 7) (t := 149) (zs := bbFiles) (by kernel_rfl) (by kernel_rfl) Tryz.underlying149 Tryz.underlying108 c108 (by kernel_rfl) (m (n := "pub-tabiya/pub/chess.bbFiles") (.tail _ (.tail _ (.head _))))
  obtain ⟨g, t, cs, fuel, p, hg, _, hv, _⟩ := m (n := "unicode/utf8.acceptRanges") (.head _)
  have h11 : 11 < W.heap.size := by
    obtain rfl := Option.some.inj ((show Tryz.prog.globalNamed "unicode/utf8.acceptRanges" = some 11 by kernel_rfl).symm.trans hg)
    unfold World.var? at hv
    rw [hg] at hv
    simp only [Option.bind_some] at hv
    split at hv
    · rename_i h1
      exact (Array.getElem?_eq_some_iff.1 h1).1
    · cases hv
  exact ⟨(o1, o2), b1, b2, a1, d1, t2.1, t3.1, t4.1, t5.1, t6.1, t7.1, a2, d2, by omega, a4, d4⟩
section
variable {H : Type} {enc : TypeId × Value → H} {P : Program} {w w' : World} {base base' : Nat} {sp sp' : Nat → Bool} {held held' : Bool}
theorem trodI_iff {k : IntKind} {t : TypeId} (ht : P.underlying t = some (.int k)) (n : Nat) (cs : List Value) (x : DataW H × List MemPlace) :
    DataW.trod enc P w base sp held (n + 1) t cs = some x ↔ ∃ m, cs = [.int k m] ∧ x = (.lit (.int k m), []) ∧ (Lit.int k m).wf = true := by
  refine ⟨DataW.trod_int ht, ?_⟩
  rintro ⟨m, rfl, rfl, hw⟩
  unfold DataW.trod
  rw [ht]
  simp [hw]
theorem trodI {k : IntKind} {t : TypeId} (ht : P.underlying t = some (.int k)) (n : Nat) (cs : List Value) : DataW.trod enc P w base sp held n t cs = DataW.trod enc P w' base' sp' held' n t cs := by
  cases n with
  | zero => rfl
  | succ n =>
    apply Option.ext
    intro x
    rw [trodI_iff ht, trodI_iff ht]
theorem trodAI {k : IntKind} {t e : TypeId} {m : Nat} (ht : P.underlying t = some (.array m e)) (he : P.underlying e = some (.int k)) (n : Nat) (cs : List Value) : DataW.trod enc P w base sp held n t cs = DataW.trod enc P w' base' sp' held' n t cs := by
  cases n with
  | zero => rfl
  | succ n =>
    unfold DataW.trod
    rw [ht]
    simp only [trodI (w := w) (w' := w') (base := base) (base' := base') (sp := sp) (sp' := sp') (held := held) (held' := held') he]
theorem trodS {t : TypeId} {fs : Array Field} (ht : P.underlying t = some (.struct fs)) (hf : ∀ f ∈ fs.toList, ∀ (n : Nat) (cs : List Value), DataW.trod enc P w base sp held n f.type cs = DataW.trod enc P w' base' sp' held' n f.type cs) (n : Nat) (cs : List Value) :
    DataW.trod enc P w base sp held n t cs = DataW.trod enc P w' base' sp' held' n t cs := by
  cases n with
  | zero => rfl
  | succ n =>
    unfold DataW.trod
    rw [ht]
    have e : ∀ l : List Field, (∀ f ∈ l, f ∈ fs.toList) → l.mapM (fun f => DataW.trod enc P w base sp held n f.type ((cs.drop f.offset).take (P.cellsOf f.type))) = l.mapM (fun f => DataW.trod enc P w' base' sp' held' n f.type ((cs.drop f.offset).take (P.cellsOf f.type))) := by
      intro l hl
      induction l with
      | nil => rfl
      | cons f l ih => rw [List.mapM_cons, List.mapM_cons, hf f (hl f (.head _)), ih fun g hg => hl g (.tail _ hg)]
    simp only [e fs.toList fun f hf => hf]
end
theorem trodP {H : Type} {enc : TypeId × Value → H} {w w' : World} {base base' : Nat} {sp sp' : Nat → Bool} {held held' : Bool} {v : Value} {d : DataW H} {p : List MemPlace}
    (h : DataW.Trod enc Tryz.prog w base sp held 24 v d p) : DataW.Trod enc Tryz.prog w' base' sp' held' 24 v d p := by
  obtain ⟨fuel, h⟩ := h
  refine ⟨fuel, ?_⟩
  rw [← h]
  symm
  refine trodS Tryz.underlying24 (fun f hf n cs => ?_) fuel _
  simp only [List.mem_cons, List.not_mem_nil, or_false] at hf
  rcases hf with rfl | rfl | rfl | rfl | rfl | rfl
  · exact trodAI Tryz.underlying22 Tryz.underlying3 n cs
  all_goals exact trodI Tryz.underlying3 n cs
theorem openP {W : World} {r : Reach} {base : Nat} {v : Value} (h : Value.okWide Tryz.prog W r base 24 v) : ∃ c, v = posV c := by
  unfold Value.okWide at h
  rw [Tryz.underlying24] at h
  obtain ⟨cs, rfl, hl, ts, hts, _, hcell⟩ := h
  have h69 : Tryz.prog.cellsOf 24 = 69 := by kernel_rfl
  have hts' : ts = List.replicate 69 3 := Option.some.inj (hts.symm.trans (by kernel_rfl))
  subst hts'
  rw [h69] at hl
  have hi : ∀ i : Nat, i < 69 → ∃ n, cs[i]? = some (.int .i64 n) := by
    intro i hi
    obtain ⟨v, hv⟩ : ∃ v, cs[i]? = some v := ⟨cs[i], Array.getElem?_eq_getElem (by omega)⟩
    obtain ⟨u, hu, hc⟩ := hcell i v hv
    rw [List.length_replicate, Nat.mod_eq_of_lt hi, List.getElem?_replicate, if_pos hi] at hu
    simp only [Option.some.injEq] at hu
    subst hu
    rw [hv]
    unfold Cell.okWide at hc
    rw [Tryz.underlying3] at hc
    cases v <;> simp_all [Cell.ok]
  refine ⟨fun i => match cs[i]? with | some (.int _ n) => n | _ => 0, ?_⟩
  unfold posV
  congr 1
  apply Array.ext_getElem?
  intro i
  by_cases h : i < 69
  · obtain ⟨n, hn⟩ := hi i h
    rw [hn, List.getElem?_toArray, ints_get h, hn]
  · rw [Array.getElem?_eq_none (by omega), Array.getElem?_eq_none (by simp [ints]; omega)]
end Go.Tb
end
