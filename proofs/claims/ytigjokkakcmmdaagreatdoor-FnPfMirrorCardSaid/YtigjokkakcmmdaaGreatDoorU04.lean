/-
  A part of the proof (my own): of the texts that the claim's last text rests on: parts P22, V5, V6, R6.
-/
import Derived.Test.YtigjokkakcmmdaaGreatDoorT28
import Derived.Test.YtigjokkakcmmdaaGreatDoorU01
import Derived.Test.YtigjokkakcmmdaaGreatDoorU03
set_option linter.unusedSimpArgs false
set_option linter.unusedVariables false
section
namespace Go.Tb
open Go Go.Proofs
set_option maxRecDepth 20000
attribute [local irreducible] tg4 madeC updB attB inChk
section
variable {c : Nat → Int} {s : PSt} {M : Mv}
theorem has_0 (hs : RepS c s) (hi : InvC c) : hasN s.1 s.2.1 s.2.2 = 0 ↔ (legL c).length = 0 := by
  have hp := (all_perm hs hi).length_eq
  rw [List.length_map] at hp
  have h1 := allL_len s.1 s.2.1 s.2.2
  unfold hasN
  rw [List.length_take]
  unfold allS at hp
  omega
theorem tag_law (hs : RepS c s) (hi : InvC c) (hM : M ∈ allS s) (hd : dbtB c (toM M) = false) {i : Nat} (h8 : i < 8) : p1 s M i = tagI c (toM M) i := by
  have hb := all_bits hs hi hM
  have hmk := all_mok hs hi hM
  have hs' := rep_step hs hi hM hd
  have hi' := inv_step hi hmk.kind hmk.leg
  have h64 := hi'.turn
  obtain ⟨k, k1, k2, k3, k4⟩ := hi'.kingAt (b := madeM c (toM M) 64) (by omega)
  have hck : tagOn M 16 = ckB c (toM M) := by
    have h1 : tagOn M 16 = attB (madeM c (toM M)) (kingI (madeM c (toM M)) (madeM c (toM M) 64)) (1 - madeM c (toM M) 64) := hs'.chk
    rw [h1]
    unfold ckB chkB
    rw [decide_eq_true (by rw [k3]; omega), Bool.true_and]
  have hchk : (nxt s M).2.1.chk = ckB c (toM M) := hck
  have hst : stS (nxt s M) = if (legL (madeM c (toM M))).length = 0 then (if ckB c (toM M) = true then 1 else 4) else 0 := by
    have h0 := has_0 hs' hi'
    unfold stS stI
    rw [hchk]
    by_cases hl : (legL (madeM c (toM M))).length = 0
    · rw [if_pos hl, if_pos (h0.2 hl)]
    · rw [if_neg hl, if_neg (fun e => hl (h0.1 e))]
  have hfl : i ≠ 0 → flagP M (stS (nxt s M)) i = flagB c (toM M) i := by
    intro h0
    have : i = 1 ∨ i = 2 ∨ i = 3 ∨ i = 4 ∨ i = 5 ∨ i = 6 ∨ i = 7 := by omega
    rcases this with rfl | rfl | rfl | rfl | rfl | rfl | rfl
    · exact hb.t48
    · exact hb.t8
    · exact hb.t12
    · rfl
    · exact hck
    · show decide (stS (nxt s M) = 1) = (ckB c (toM M) && decide ((legL (madeM c (toM M))).length = 0))
      rw [hst]
      by_cases hl : (legL (madeM c (toM M))).length = 0 <;> cases ckB c (toM M) <;> simp [hl]
    · show decide (stS (nxt s M) = 4) = (!ckB c (toM M) && decide ((legL (madeM c (toM M))).length = 0))
      rw [hst]
      by_cases hl : (legL (madeM c (toM M))).length = 0 <;> cases ckB c (toM M) <;> simp [hl]
  unfold p1 tagI
  by_cases h0 : i = 0
  · subst h0
    rw [show flagP M (stS (nxt s M)) 0 = true from rfl, show flagB c (toM M) 0 = false from rfl]; rfl
  · rw [hfl h0, if_neg h0]; omega
end
theorem tLoop_all {G : M3 → Int → TR} {cnt : Mv → Nat → Int} {good : Mv → Prop} : ∀ (l : List Mv) (n : Nat → Int) (w : Int), (tLoop G (l.map toM) n w).2.1 = true → (∀ M ∈ l, ∀ w, (G (toM M) w).2.1 = true → good M ∧ ∀ i, i < 8 → (G (toM M) w).1 i = cnt M i) →
    (∀ M ∈ l, good M) ∧ ∀ i, i < 8 → (tLoop G (l.map toM) n w).1 i = n i + sumL (fun M => cnt M i) l
  | [], n, w, _, _ => ⟨fun M hM => (by cases hM), fun i _ => by simp [tLoop, sumL]⟩
  | M :: l, n, w, h, hG => by
    rw [List.map_cons, tLoop] at h ⊢
    by_cases hx : (G (toM M) w).2.1 = true
    · rw [if_pos hx] at h ⊢
      obtain ⟨g1, g2⟩ := hG M (by simp) w hx
      obtain ⟨a1, a2⟩ := tLoop_all l _ _ h fun M' hM' => hG M' (by simp [hM'])
      refine ⟨fun M' hM' => ?_, fun i h8 => ?_⟩
      · rcases List.mem_cons.1 hM' with rfl | hM'
        · exact g1
        · exact a1 M' hM'
      · rw [a2 i h8, g2 i h8, sumL]; omega
    · rw [if_neg hx] at h; cases h
theorem ptN_L1 (s : PSt) (i : Nat) : ptN 1 s i = sumL (fun M => p1 s M i) (allS s) := by
  rw [ptN_1, sumK_L (fun M => p1 s M i) (allS s) _ (Nat.le_refl _), List.take_length]
theorem ptN_LS (d : Nat) (s : PSt) (i : Nat) : ptN (d + 2) s i = sumL (fun M => ptN (d + 1) (nxt s M) i) (allS s) := by
  rw [ptN_S, sumK_L (fun M => ptN (d + 1) (nxt s M) i) (allS s) _ (Nat.le_refl _), List.take_length]
def TagC (d : Nat) : Prop := ∀ (c : Nat → Int) (s : PSt) (w N : Int), InvC c → RepS c s → (0 ≤ s.2.1.half ∧ s.2.1.half ≤ N) → (0 ≤ s.2.1.mc ∧ s.2.1.mc ≤ N) → N + (d + 1) ≤ 1000000 → (tallyF (d + 1) c w).2.1 = true → PtOk (d + 1) s ∧ ∀ i, i < 8 → ptN (d + 1) s i = (tallyF (d + 1) c w).1 i
theorem gOne_all {c : Nat → Int} {m : M3} {w : Int} (h : (gOne c m w).2.1 = true) : dbtB c m = false ∧ ¬ 218 < (legL (madeM c m)).length ∧ (gOne c m w).1 = tagI c m := by
  unfold gOne at h ⊢
  split at h
  · cases h
  · rename_i h1
    rw [if_neg h1]
    split at h
    · cases h
    · rename_i h2
      rw [if_neg h2]
      refine ⟨?_, h2, rfl⟩
      cases hx : dbtB c m
      · rfl
      · exact absurd (.inr hx) h1
theorem gMore_all {d : Nat} {c : Nat → Int} {m : M3} {w : Int} (h : (gMore d c m w).2.1 = true) : dbtB c m = false ∧ (tallyF (d + 1) (madeM c m) (w - 1)).2.1 = true ∧ (gMore d c m w).1 = (tallyF (d + 1) (madeM c m) (w - 1)).1 := by
  unfold gMore at h ⊢
  split at h
  · cases h
  · rename_i h1
    rw [if_neg h1]
    refine ⟨?_, h, rfl⟩
    cases hx : dbtB c m
    · rfl
    · exact absurd (.inr hx) h1
attribute [local irreducible] ptN tallyF sumL allS legL tLoop gOne gMore nxt p1 tagI
theorem tag_0 : TagC 0 := by
  intro c s w N hi hs hh hm hN h
  rw [Nat.zero_add] at h ⊢
  rw [tally_1] at h ⊢
  by_cases hl : 218 < (legL c).length
  · rw [if_pos hl] at h; cases h
  · rw [if_neg hl] at h ⊢
    have hst := st_ok hs hi (by omega) (by omega) (by omega)
    obtain ⟨l', hp, hmap⟩ := perm_lift (all_perm hs hi) (allS s) rfl
    rw [← hmap] at h ⊢
    obtain ⟨a1, a2⟩ := tLoop_all (G := gOne c) (cnt := fun M => p1 s M) (good := fun M => StOk (nxt s M)) l' zeroF w h fun M hM w' hG => by
      have hM' : M ∈ allS s := hp.mem_iff.2 hM
      obtain ⟨q1, q2, q3⟩ := gOne_all hG
      have hmk := all_mok hs hi hM'
      have hn1 : 0 ≤ (nxt s M).2.1.half ∧ (nxt s M).2.1.half ≤ N + 1 := nxt_half s M hh
      have hn2 : 0 ≤ (nxt s M).2.1.mc ∧ (nxt s M).2.1.mc ≤ N + 1 := nxt_mc s M hm
      refine ⟨st_ok (rep_step hs hi hM' q1) (inv_step hi hmk.kind hmk.leg) (by omega) (by omega) (by omega), fun i h8 => ?_⟩
      rw [q3, tag_law hs hi hM' q1 h8]
    refine ⟨⟨hst, fun M hM => ⟨all_mvOk hs hi hM, a1 M (hp.mem_iff.1 hM)⟩⟩, fun i h8 => ?_⟩
    rw [a2 i h8, zeroF_at, ← sumL_perm hp]
    exact ptN_L1 s i
theorem tag_S {d : Nat} (ih : TagC d) : TagC (d + 1) := by
  intro c s w N hi hs hh hm hN h
  rw [tally_S] at h ⊢
  by_cases hl : 218 < (legL c).length
  · rw [if_pos hl] at h; cases h
  · rw [if_neg hl] at h ⊢
    have hst := st_ok hs hi (by omega) (by omega) (by omega)
    obtain ⟨l', hp, hmap⟩ := perm_lift (all_perm hs hi) (allS s) rfl
    rw [← hmap] at h ⊢
    obtain ⟨a1, a2⟩ := tLoop_all (G := gMore d c) (cnt := fun M i => ptN (d + 1) (nxt s M) i) (good := fun M => PtOk (d + 1) (nxt s M)) l' zeroF w h fun M hM w' hG => by
      have hM' : M ∈ allS s := hp.mem_iff.2 hM
      obtain ⟨q1, q2, q3⟩ := gMore_all hG
      have hmk := all_mok hs hi hM'
      have hn1 : 0 ≤ (nxt s M).2.1.half ∧ (nxt s M).2.1.half ≤ N + 1 := nxt_half s M hh
      have hn2 : 0 ≤ (nxt s M).2.1.mc ∧ (nxt s M).2.1.mc ≤ N + 1 := nxt_mc s M hm
      obtain ⟨b1, b2⟩ := ih (madeM c (toM M)) (nxt s M) (w' - 1) (N + 1) (inv_step hi hmk.kind hmk.leg) (rep_step hs hi hM' q1) hn1 hn2 (by omega) q2
      exact ⟨b1, fun i h8 => by rw [q3, b2 i h8]⟩
    refine ⟨⟨hst, fun M hM => ⟨all_mvOk hs hi hM, a1 M (hp.mem_iff.1 hM)⟩⟩, fun i h8 => ?_⟩
    rw [a2 i h8, zeroF_at, ← sumL_perm hp]
    exact ptN_LS d s i
theorem tag_count : ∀ d : Nat, TagC d
  | 0 => tag_0
  | d + 1 => tag_S (tag_count d)
end Go.Tb
end
section
namespace Go.Tb
open Go Go.Proofs
set_option maxRecDepth 20000
attribute [local irreducible] madeC attB
section
variable {c c' : Nat → Int} {f t s k r : Nat} {m : M3} {p : Int}
theorem Mir.leg1 (h : Mir c c') (hi : InvC c) (hi' : InvC c') (hm : m ∈ legL c) : mirM m ∈ legL c' := by
  refine (leg_iff hi').2 ?_
  rcases (leg_iff hi).1 hm with ⟨a, b⟩ | ⟨r, hr, hc, rfl⟩
  · exact .inl ⟨h.nrm1 a, by rw [h.legQ hi (leg_sq hi hm)]; exact b⟩
  · obtain ⟨e1, e2, _⟩ := cas_fl hr
    exact .inr ⟨(r + 2) % 4, by omega, h.cas1 hr hc, by rw [mirM_nat, e1, e2]⟩
theorem mirM2 (hi : InvC c) (hm : m ∈ legL c) : mirM (mirM m) = m := by
  obtain ⟨f, t, hf, ht, e, _⟩ := leg_sq hi hm
  rw [e, mirM_nat, mirM_nat, fl_fl hf, fl_fl ht]
theorem Mir.leg_perm (h : Mir c c') (hi : InvC c) (hi' : InvC c') : (legL c').Perm ((legL c).map mirM) := by
  have hnd : ((legL c).map mirM).Nodup := by
    refine List.pairwise_map.2 (List.Pairwise.imp_of_mem (fun {a b} ha hb hne e => hne ?_) (leg_nd hi))
    rw [← mirM2 hi ha, e, mirM2 hi hb]
  refine (List.perm_ext_iff_of_nodup (leg_nd hi') hnd).2 fun a => ?_
  rw [List.mem_map]
  constructor
  · intro ha
    exact ⟨mirM a, h.symm.leg1 hi' hi ha, mirM2 hi' ha⟩
  · rintro ⟨b, hb, rfl⟩
    exact h.leg1 hi hi' hb
theorem Mir.leg_len (h : Mir c c') (hi : InvC c) (hi' : InvC c') : (legL c').length = (legL c).length := by
  have := (h.leg_perm hi hi').length_eq
  rwa [List.length_map] at this
theorem leg_inv (hi : InvC c) (hm : m ∈ legL c) : InvC (madeM c m) := by
  obtain ⟨a, b⟩ := leg_kind hi hm
  exact inv_step hi a b
theorem kind_q {q : Int} (hk : KindM c m) (h2 : 2 ≤ m.2.2) (hq : 2 ≤ q ∧ q ≤ 5) : KindM c (m.1, m.2.1, q) := by
  cases hk with
  | n f t h hg hp e1 e2 =>
    have hkk : kindOf (c f) = 6 := by rcases h.promo with h0 | h0; (· omega); (· exact h0.2)
    refine .n f t ⟨⟨h.toMvB, h.nops, h.nocas, .inr ⟨hq, hkk⟩⟩, h.noep, h.nohome⟩ hg ?_ e1 e2
    unfold promOk at hp ⊢
    split at hp
    · rename_i hc; rw [if_pos hc]; exact hq
    · omega
  | e f t e h e1 e2 e3 => omega
  | k r h e1 e2 e3 => omega
theorem Mir.gives (h : Mir c c') (hi : InvC c) (hk : KindM c ((f : Int), (t : Int), p)) (hf : f < 64) (ht : t < 64) (hp : 0 ≤ p ∧ p ≤ 5) (hs : kindOf (c f) = 1 → -2 ≤ fdif f t ∧ fdif f t ≤ 2) : givesB c' (fl f : Nat) (fl t : Nat) p = givesB c f t p := by
  have hm := h.made hf ht hp hs
  have h64 := hi.turn
  obtain ⟨_, _, _, _, _, hkk, _⟩ := hk.off hi
  obtain ⟨k, k1⟩ := hi.king (1 - c 64) (by omega)
  have hex := hkk (1 - c 64) (by omega) k k1
  unfold givesB
  rw [madeC_64, madeC_64, h.turn]
  exact hm.chk (b := 1 - c 64) (by omega) ⟨_, hex⟩
theorem Mir.dbt (h : Mir c c') (hi : InvC c) (hm : m ∈ legL c) : dbtB c' (mirM m) = dbtB c m := by
  obtain ⟨f, t, hf, ht, e, hp, hs⟩ := leg_sq hi hm
  have hk := (leg_kind hi hm).1
  generalize hpp : m.2.2 = p at *
  subst e
  rw [mirM_nat]
  unfold dbtB doubtB
  simp only
  have g1 := h.gives hi hk hf ht hp hs
  rw [g1]
  by_cases h2 : p ≤ 2 ∨ givesB c f t p = true
  · rw [if_pos h2, if_pos h2]
  · rw [if_neg h2, if_neg h2]
    have hp2 : 2 < p := by
      rcases Int.lt_or_le 2 p with h3 | h3
      · exact h3
      · exact absurd (.inl h3) h2
    congr 1
    apply propext
    have hq : ∀ k : Nat, 2 ≤ k → (k : Int) < p → givesB c' (fl f : Nat) (fl t : Nat) k = givesB c f t k := fun k h3 h4 =>
      h.gives hi (kind_q (q := (k : Int)) hk (by simp only; omega) (by omega)) hf ht (by omega) hs
    constructor
    · rintro ⟨k, h3, h4, h5⟩; exact ⟨k, h3, h4, by rw [← hq k h3 h4]; exact h5⟩
    · rintro ⟨k, h3, h4, h5⟩; exact ⟨k, h3, h4, by rw [hq k h3 h4]; exact h5⟩
theorem Mir.tag3 (h : Mir c c') (hsq : ∃ f t : Nat, f < 64 ∧ t < 64 ∧ m = ((f : Int), (t : Int), m.2.2) ∧ (0 ≤ m.2.2 ∧ m.2.2 ≤ 5) ∧ (kindOf (c f) = 1 → -2 ≤ fdif f t ∧ fdif f t ≤ 2)) : tkB c' (mirM m) = tkB c m ∧ psB c' (mirM m) = psB c m ∧ ksB c' (mirM m) = ksB c m := by
  obtain ⟨f, t, hf, ht, e, hp, hs⟩ := hsq
  generalize m.2.2 = p at *
  subst e
  rw [mirM_nat]
  obtain ⟨t1, t2⟩ := h.takes hf ht
  have htk : tkB c' (((fl f : Nat) : Int), ((fl t : Nat) : Int), p) = tkB c ((f : Int), (t : Int), p) := t1
  refine ⟨htk, ?_, ?_⟩
  · unfold psB
    rw [htk]
    cases hx : tkB c ((f : Int), (t : Int), p)
    · rfl
    · obtain ⟨q, q1, q2, q3⟩ := t2 hx
      simp only
      rw [q2, q3, Bool.true_and, Bool.true_and]
      congr 1
      rw [Bool.eq_iff_iff, decide_eq_true_eq, decide_eq_true_eq]
      have := fl_inj q1 ht; omega
  · unfold ksB
    rw [Bool.eq_iff_iff, decide_eq_true_eq, decide_eq_true_eq]
    exact h.isCas hf ht hs
theorem Mir.tag (h : Mir c c') (hi : InvC c) (hi' : InvC c') (hm : m ∈ legL c) (i : Nat) : tagI c' (mirM m) i = tagI c m i := by
  have hsq := leg_sq hi hm
  have hmm := h.madeQ hsq
  have hii := leg_inv hi hm
  have hii' := leg_inv hi' (h.leg1 hi hi' hm)
  have hlen := hmm.leg_len hii hii'
  have h64 := hii.turn
  obtain ⟨k, k1⟩ := hii.king (madeM c m 64) (by omega)
  have hck : ckB c' (mirM m) = ckB c m := by
    unfold ckB
    rw [hmm.turn]
    exact hmm.chk (by omega) ⟨k, k1⟩
  obtain ⟨htk, hps, hks⟩ : tkB c' (mirM m) = tkB c m ∧ psB c' (mirM m) = psB c m ∧ ksB c' (mirM m) = ksB c m := h.tag3 hsq
  have hpr : (mirM m).2.2 = m.2.2 := rfl
  have hfl : flagB c' (mirM m) i = flagB c m i := by
    unfold flagB mtB stB
    rw [htk, hps, hks, hpr, hck, hlen]
  unfold tagI
  rw [hfl]
end
def sumM (g : M3 → Int) : List M3 → Int
  | [] => 0
  | m :: l => g m + sumM g l
theorem sumM_perm {g : M3 → Int} {l m : List M3} (h : l.Perm m) : sumM g l = sumM g m := by
  induction h with
  | nil => rfl
  | cons a _ ih => simp only [sumM, ih]
  | swap a b t => simp only [sumM]; omega
  | trans _ _ ih1 ih2 => rw [ih1, ih2]
theorem sumM_map {g h : M3 → Int} {σ : M3 → M3} : ∀ l : List M3, (∀ m ∈ l, g (σ m) = h m) → sumM g (l.map σ) = sumM h l
  | [], _ => rfl
  | m :: l, e => by rw [List.map_cons, sumM, sumM, e m (by simp), sumM_map l fun x hx => e x (by simp [hx])]
theorem sumM_nn {g : M3 → Int} : ∀ l : List M3, (∀ m ∈ l, 0 ≤ g m) → 0 ≤ sumM g l
  | [], _ => Int.le_refl 0
  | m :: l, e => by
    have h1 := e m (by simp)
    have h2 := sumM_nn l fun x hx => e x (by simp [hx])
    simp only [sumM]; omega
theorem tLoop_iff {G : M3 → Int → TR} {good : M3 → Prop} {a : M3 → Int} {u : M3 → Nat → Int} (ha : ∀ m, 0 ≤ a m) (hG : ∀ m w, 0 ≤ w → ((G m w).2.1 = true ↔ good m ∧ a m ≤ w)) (hv : ∀ m w, 0 ≤ w → (G m w).2.1 = true → (∀ i, (G m w).1 i = u m i) ∧ (G m w).2.2 = w - a m) :
    ∀ (l : List M3) (n : Nat → Int) (w : Int), 0 ≤ w → ((tLoop G l n w).2.1 = true ↔ (∀ m ∈ l, good m) ∧ sumM a l ≤ w) ∧ ((tLoop G l n w).2.1 = true → (∀ i, (tLoop G l n w).1 i = n i + sumM (fun m => u m i) l) ∧ (tLoop G l n w).2.2 = w - sumM a l)
  | [], n, w, h0 => by
    simp only [tLoop, sumM]
    exact ⟨⟨fun _ => ⟨fun m hm => (by cases hm), h0⟩, fun _ => trivial⟩, fun _ => ⟨fun i => by omega, by omega⟩⟩
  | m :: l, n, w, h0 => by
    have h1 := hG m w h0
    have h2 := hv m w h0
    have h3 := ha m
    have h4 := sumM_nn l fun x _ => ha x
    rw [tLoop]
    by_cases hx : (G m w).2.1 = true
    · rw [if_pos hx]
      obtain ⟨e1, e2⟩ := h2 hx
      obtain ⟨g1, g2⟩ := h1.1 hx
      obtain ⟨ih1, ih2⟩ := tLoop_iff ha hG hv l (fun i => n i + (G m w).1 i) (G m w).2.2 (by omega)
      refine ⟨?_, fun ht => ?_⟩
      · rw [ih1]
        simp only [sumM]
        constructor
        · rintro ⟨b1, b2⟩
          refine ⟨fun x hx => ?_, by omega⟩
          rcases List.mem_cons.1 hx with rfl | hx
          · exact g1
          · exact b1 x hx
        · rintro ⟨b1, b2⟩
          exact ⟨fun x hx => b1 x (by simp [hx]), by omega⟩
      · obtain ⟨b1, b2⟩ := ih2 ht
        refine ⟨fun i => ?_, ?_⟩
        · rw [b1 i, e1 i]; simp only [sumM]; omega
        · rw [b2, e2]; simp only [sumM]; omega
    · rw [if_neg hx]
      refine ⟨⟨fun e => (by cases e), fun ⟨b1, b2⟩ => ?_⟩, fun e => (by cases e)⟩
      simp only [sumM] at b2
      exact absurd (h1.2 ⟨b1 m (by simp), by omega⟩) hx
def goodT : Nat → (Nat → Int) → Prop
  | 0, _ => False
  | 1, c => (legL c).length ≤ 218 ∧ ∀ m ∈ legL c, dbtB c m = false ∧ (legL (madeM c m)).length ≤ 218
  | d + 2, c => (legL c).length ≤ 218 ∧ ∀ m ∈ legL c, dbtB c m = false ∧ goodT (d + 1) (madeM c m)
noncomputable def costT : Nat → (Nat → Int) → Int
  | 0, _ => 0
  | 1, c => sumM (fun _ => 1) (legL c)
  | d + 2, c => sumM (fun m => 1 + costT (d + 1) (madeM c m)) (legL c)
noncomputable def talT : Nat → (Nat → Int) → Nat → Int
  | 0, _, _ => 0
  | 1, c, i => sumM (fun m => tagI c m i) (legL c)
  | d + 2, c, i => sumM (fun m => talT (d + 1) (madeM c m) i) (legL c)
theorem costT_nn : ∀ (d : Nat) (c : Nat → Int), 0 ≤ costT d c
  | 0, _ => Int.le_refl 0
  | 1, c => sumM_nn _ fun _ _ => by decide
  | d + 2, c => sumM_nn _ fun m _ => by have := costT_nn (d + 1) (madeM c m); omega
theorem gOne_iff (c : Nat → Int) (m : M3) (w : Int) : (gOne c m w).2.1 = true ↔ (dbtB c m = false ∧ (legL (madeM c m)).length ≤ 218) ∧ 1 ≤ w := by
  constructor
  · intro h
    obtain ⟨a, b, _⟩ := gOne_all h
    refine ⟨⟨a, by omega⟩, ?_⟩
    unfold gOne at h
    split at h
    · cases h
    · rename_i h1
      rcases Int.lt_or_le (w - 1) 0 with h2 | h2
      · exact absurd (.inl h2) h1
      · omega
  · rintro ⟨⟨a, b⟩, d⟩
    unfold gOne
    rw [if_neg (by rw [a]; simp; omega), if_neg (by omega)]
theorem gOne_v {c : Nat → Int} {m : M3} {w : Int} (h : (gOne c m w).2.1 = true) : (gOne c m w).2.2 = w - 1 := by
  unfold gOne; split <;> (try split) <;> rfl
theorem tally_iff : ∀ (d : Nat) (c : Nat → Int) (w : Int), 0 ≤ w → ((tallyF (d + 1) c w).2.1 = true ↔ goodT (d + 1) c ∧ costT (d + 1) c ≤ w) ∧ ((tallyF (d + 1) c w).2.1 = true → (∀ i, (tallyF (d + 1) c w).1 i = talT (d + 1) c i) ∧ (tallyF (d + 1) c w).2.2 = w - costT (d + 1) c)
  | 0, c, w, h0 => by
    rw [Nat.zero_add, tally_1]
    have key := tLoop_iff (G := gOne c) (good := fun m => dbtB c m = false ∧ (legL (madeM c m)).length ≤ 218) (a := fun _ => 1) (u := fun m => tagI c m) (fun _ => by decide) (fun m w _ => gOne_iff c m w) (fun m w _ h => ⟨fun i => by rw [(gOne_all h).2.2], gOne_v h⟩) (legL c) zeroF w h0
    unfold goodT costT talT
    by_cases hl : 218 < (legL c).length
    · rw [if_pos hl]
      exact ⟨⟨fun e => (by cases e), fun e => absurd e.1.1 (by omega)⟩, fun e => (by cases e)⟩
    · rw [if_neg hl]
      refine ⟨key.1.trans ⟨fun e => ⟨⟨by omega, e.1⟩, e.2⟩, fun e => ⟨e.1.2, e.2⟩⟩, fun e => ?_⟩
      obtain ⟨b1, b2⟩ := key.2 e
      exact ⟨fun i => by rw [b1 i, zeroF_at], b2⟩
  | d + 1, c, w, h0 => by
    rw [tally_S]
    have hG : ∀ (m : M3) (w : Int), 0 ≤ w → ((gMore d c m w).2.1 = true ↔ (dbtB c m = false ∧ goodT (d + 1) (madeM c m)) ∧ 1 + costT (d + 1) (madeM c m) ≤ w) := fun m w h0 => by
      have hc := costT_nn (d + 1) (madeM c m)
      constructor
      · intro h
        obtain ⟨a, b, _⟩ := gMore_all h
        have hw : 0 ≤ w - 1 := by
          unfold gMore at h
          split at h
          · cases h
          · rename_i h1
            rcases Int.lt_or_le (w - 1) 0 with h2 | h2
            · exact absurd (.inl h2) h1
            · exact h2
        obtain ⟨q1, q2⟩ := (tally_iff d (madeM c m) (w - 1) hw).1.1 b
        exact ⟨⟨a, q1⟩, by omega⟩
      · rintro ⟨⟨a, b⟩, e⟩
        unfold gMore
        rw [if_neg (by rw [a]; simp; omega)]
        exact (tally_iff d (madeM c m) (w - 1) (by omega)).1.2 ⟨b, by omega⟩
    have hv : ∀ (m : M3) (w : Int), 0 ≤ w → (gMore d c m w).2.1 = true → (∀ i, (gMore d c m w).1 i = talT (d + 1) (madeM c m) i) ∧ (gMore d c m w).2.2 = w - (1 + costT (d + 1) (madeM c m)) := fun m w h0 h => by
      obtain ⟨⟨a, b⟩, e⟩ := (hG m w h0).1 h
      have hc := costT_nn (d + 1) (madeM c m)
      have ih := (tally_iff d (madeM c m) (w - 1) (by omega)).2 (gMore_all h).2.1
      unfold gMore
      rw [if_neg (by rw [a]; simp; omega)]
      exact ⟨ih.1, by rw [ih.2]; omega⟩
    have key := tLoop_iff (G := gMore d c) (good := fun m => dbtB c m = false ∧ goodT (d + 1) (madeM c m)) (a := fun m => 1 + costT (d + 1) (madeM c m)) (u := fun m => talT (d + 1) (madeM c m)) (fun m => by have := costT_nn (d + 1) (madeM c m); omega) hG hv (legL c) zeroF w h0
    unfold goodT costT talT
    by_cases hl : 218 < (legL c).length
    · rw [if_pos hl]
      exact ⟨⟨fun e => (by cases e), fun e => absurd e.1.1 (by omega)⟩, fun e => (by cases e)⟩
    · rw [if_neg hl]
      refine ⟨key.1.trans ⟨fun e => ⟨⟨by omega, e.1⟩, e.2⟩, fun e => ⟨e.1.2, e.2⟩⟩, fun e => ?_⟩
      obtain ⟨b1, b2⟩ := key.2 e
      exact ⟨fun i => by rw [b1 i, zeroF_at], b2⟩
theorem mir_sum {c c' : Nat → Int} (h : Mir c c') (hi : InvC c) (hi' : InvC c') {g g' : M3 → Int} (e : ∀ m ∈ legL c, g' (mirM m) = g m) : sumM g' (legL c') = sumM g (legL c) := by
  rw [sumM_perm (h.leg_perm hi hi'), sumM_map _ e]
theorem mir_tal : ∀ (d : Nat) (c c' : Nat → Int), Mir c c' → InvC c → InvC c' → (goodT (d + 1) c → goodT (d + 1) c') ∧ costT (d + 1) c' = costT (d + 1) c ∧ ∀ i, talT (d + 1) c' i = talT (d + 1) c i
  | 0, c, c', h, hi, hi' => by
    unfold goodT costT talT
    refine ⟨fun hg => ⟨by rw [h.leg_len hi hi']; exact hg.1, fun m hm => ?_⟩, mir_sum h hi hi' fun _ _ => rfl, fun i => mir_sum h hi hi' fun m hm => h.tag hi hi' hm i⟩
    have hm' := h.symm.leg1 hi' hi hm
    have h1 := h.symm.dbt hi' hm
    obtain ⟨a, b⟩ := hg.2 _ hm'
    have hmm := h.symm.madeQ (leg_sq hi' hm)
    refine ⟨by rw [← h1]; exact a, ?_⟩
    rw [← hmm.leg_len (leg_inv hi' hm) (leg_inv hi hm')]; exact b
  | d + 1, c, c', h, hi, hi' => by
    have ih := fun (m : M3) (hm : m ∈ legL c) => mir_tal d (madeM c m) (madeM c' (mirM m)) (h.madeQ (leg_sq hi hm)) (leg_inv hi hm) (leg_inv hi' (h.leg1 hi hi' hm))
    unfold goodT costT talT
    refine ⟨fun hg => ⟨by rw [h.leg_len hi hi']; exact hg.1, fun m hm => ?_⟩, mir_sum h hi hi' fun m hm => by rw [(ih m hm).2.1], fun i => mir_sum h hi hi' fun m hm => (ih m hm).2.2 i⟩
    have hm' := h.symm.leg1 hi' hi hm
    have h1 := h.symm.dbt hi' hm
    obtain ⟨a, b⟩ := hg.2 _ hm'
    refine ⟨by rw [← h1]; exact a, ?_⟩
    have := (ih _ hm').1 b
    rwa [mirM2 hi' hm] at this
end Go.Tb
end
section
namespace Go.Tb
open Go Go.Proofs
set_option maxRecDepth 20000
def turnC (c : Nat → Int) : Nat → Int := fun s => if s < 64 then sw (c (fl s)) else if s = 64 then 1 - c 64 else if s = 65 then bor .i64 (bshr .i64 (c 65) 2) (bshl .i64 (band .i64 (c 65) 3) 2) else if s = 66 then (if 0 ≤ c 66 then bxor .i64 (c 66) 56 else c 66) else c s
theorem cast_all : ∀ x : Fin 16, (0 ≤ bor .i64 (bshr .i64 (x.val : Int) 2) (bshl .i64 (band .i64 (x.val : Int) 3) 2) ∧ bor .i64 (bshr .i64 (x.val : Int) 2) (bshl .i64 (band .i64 (x.val : Int) 3) 2) ≤ 15) ∧ ∀ r : Fin 4, (bitI (bor .i64 (bshr .i64 (x.val : Int) 2) (bshl .i64 (band .i64 (x.val : Int) 3) 2)) ((r.val + 2) % 4) = 1 ↔ bitI (x.val : Int) r.val = 1) := by decide +kernel
theorem xor_all : ∀ s : Fin 64, bxor .i64 (s.val : Int) 56 = ((fl s.val : Nat) : Int) := by decide +kernel
theorem xor_fl {s : Nat} (h : s < 64) : bxor .i64 (s : Int) 56 = ((fl s : Nat) : Int) := xor_all ⟨s, h⟩
section
variable {c c' : Nat → Int} {k r : Nat}
theorem mir_turn (hi : InvC c) : Mir c (turnC c) := by
  have h65 := hi.cast
  obtain ⟨a1, a2⟩ := cast_all ⟨(c 65).toNat, by omega⟩
  simp only [Int.toNat_of_nonneg h65.1] at a1 a2
  have e65 : turnC c 65 = bor .i64 (bshr .i64 (c 65) 2) (bshl .i64 (band .i64 (c 65) 3) 2) := rfl
  have e66 : turnC c 66 = if 0 ≤ c 66 then bxor .i64 (c 66) 56 else c 66 := rfl
  refine ⟨hi.bd, hi.turn, fun s hs => ?_, rfl, ⟨h65, by rw [e65]; exact a1⟩, fun r hr => by rw [e65]; exact a2 ⟨r, hr⟩, ?_⟩
  · unfold turnC; rw [if_pos (fl_lt hs), fl_fl hs]
  · rw [e66]
    rcases hi.ep with h | ⟨_, h, _⟩
    · exact .inl ⟨h, by rw [if_neg (by omega)]; exact h⟩
    · refine .inr ⟨h.1, h.2, ?_⟩
      rw [if_pos h.1]
      have := xor_fl (s := (c 66).toNat) (by omega)
      rwa [Int.toNat_of_nonneg h.1] at this
theorem inv_mir (h : Mir c c') (hi : InvC c) : InvC c' := by
  have h64 := hi.turn
  have htn := h.turn
  have hbd := h.bd'
  have key : ∀ r : Nat, r < 4 → (rightB c' r = true ↔ bitI (c' 65) r = 1) := by
    intro r hr
    obtain ⟨e1, e2, _⟩ := home_nat hr
    unfold rightB
    rw [Bool.and_eq_true, Bool.and_eq_true, decide_eq_true_eq, decide_eq_true_eq, decide_eq_true_eq]
    refine ⟨fun x => x.1.1, fun hb => ?_⟩
    have hb' := (h.symm.cast r hr).2 hb
    obtain ⟨k1, k2⟩ := right_at hi (r := (r + 2) % 4) (by omega) hb'
    obtain ⟨f1, _, f3, _⟩ := cas_fl hr
    obtain ⟨g1, _, g3, _⟩ := cas_facts hr
    rw [f1] at k1; rw [f3] at k2
    have s1 := h.sq _ (fl_lt g1)
    have s2 := h.sq _ (fl_lt g3)
    rw [fl_fl g1] at s1; rw [fl_fl g3] at s2
    rw [e1, e2, Int.toNat_natCast, Int.toNat_natCast, s1, s2, k1, k2]
    have hr4 : r = 0 ∨ r = 1 ∨ r = 2 ∨ r = 3 := by omega
    refine ⟨⟨hb, ?_⟩, ?_⟩ <;> rcases hr4 with rfl | rfl | rfl | rfl <;> decide
  refine ⟨hbd, fun k hk h6 => ?_, by omega, h.cb.2, fun b hb => ?_, ?_, ?_, ?_⟩
  · have h1 := h.kind (fl_lt hk)
    rw [fl_fl hk] at h1
    have := hi.pawns (fl k) (fl_lt hk) (by rw [← h1]; exact h6)
    unfold fl at this; omega
  · obtain ⟨k, k1⟩ := hi.king (1 - b) (by omega)
    have := h.king (b := 1 - b) (by omega) k1
    rw [show (1 : Int) - (1 - b) = b by omega] at this
    exact ⟨_, this⟩
  · have hsum := bits_sum_all ⟨(c' 65).toNat, by have := h.cb.2; omega⟩
    simp only [Int.toNat_of_nonneg h.cb.2.1] at hsum
    rw [hsum]
    simp only [rightsN]
    have hif : ∀ r : Nat, r < 4 → (if rightB c' r = true then (2 : Int) ^ r else 0) = if bitI (c' 65) r = 1 then 2 ^ r else 0 := fun r hr => by
      by_cases hb : bitI (c' 65) r = 1
      · rw [if_pos hb, if_pos ((key r hr).2 hb)]
      · rw [if_neg hb, if_neg fun x => hb ((key r hr).1 x)]
    rw [hif 0 (by decide), hif 1 (by decide), hif 2 (by decide), hif 3 (by decide)]
  · rcases h.ep with ⟨_, e⟩ | ⟨a, b, e⟩
    · exact .inl e
    · rcases hi.ep with q | ⟨q1, q2, q3, q4⟩
      · omega
      · right
        have hu := up_01 h.t01
        have hup := h.up
        have hlt : (c 66).toNat < 64 := by omega
        have hm : (c 66 - 8 * upOf (c 64)).toNat < 64 := by omega
        have hrk := fl_rk hlt
        have hfl := fl_lt hlt
        refine ⟨by rw [e, hrk]; omega, by rw [e]; omega, by rw [e, Int.toNat_natCast]; exact (h.z hlt).2 q3, ?_⟩
        have e2 : (c' 66 - 8 * upOf (c' 64)).toNat = fl (c 66 - 8 * upOf (c 64)).toNat := by
          rw [e, hup]; unfold fl; omega
        rw [e2, h.sq _ hm, q4, htn]
        rcases (show c 64 = 0 ∨ c 64 = 1 by omega) with x | x <;> rw [x] <;> decide
  · obtain ⟨k, k1⟩ := hi.king (1 - c 64) (by omega)
    have hA : KingAt c (1 - c 64) k := k1
    have hB := h.king (b := 1 - c 64) (by omega) hA
    have hs := hi.safe
    rw [hA.eq] at hs
    rw [show (1 : Int) - c' 64 = 1 - (1 - c 64) by omega, hB.eq, htn, h.att hA.1]
    exact hs
end
theorem mirror_law {c : Nat → Int} {d : Nat} (hr : RightC c) (hd : d + 1 ≤ 5) (h : (tallyF (d + 1) c 6000).2.1 = true) :
    (PtOk (d + 1) (stC c) ∧ PtOk (d + 1) (stC (turnC c))) ∧ (PfOk (d + 1) (stC c) ∧ pfN (d + 1) (stC c) = ptN (d + 1) (stC c) 0) ∧ ints .i64 8 (ptN (d + 1) (stC (turnC c))) = ints .i64 8 (ptN (d + 1) (stC c)) := by
  have hi := inv_of_valid hr.v
  have h1 := hr.v.half
  have h2 := hr.v.full
  have h3 := hr.half
  have h4 := hr.full
  have hm := mir_turn hi
  have hi' := inv_mir hm hi
  obtain ⟨g, q⟩ := (tally_iff d c 6000 (by decide)).1.1 h
  have hv := ((tally_iff d c 6000 (by decide)).2 h).1
  obtain ⟨m1, m2, m3⟩ := mir_tal d c (turnC c) hm hi hi'
  have h' : (tallyF (d + 1) (turnC c) 6000).2.1 = true := (tally_iff d _ 6000 (by decide)).1.2 ⟨m1 g, by rw [m2]; exact q⟩
  have hv' := ((tally_iff d (turnC c) 6000 (by decide)).2 h').1
  obtain ⟨a1, a2⟩ := tag_count d c (stC c) 6000 1000 hi (rep_init hi) ⟨h1, h3⟩ ⟨show 0 ≤ c 68 by omega, h4⟩ (by omega) h
  obtain ⟨b1, b2⟩ := tag_count d (turnC c) (stC (turnC c)) 6000 1000 hi' (rep_init hi') ⟨h1, h3⟩ ⟨show 0 ≤ c 68 by omega, h4⟩ (by omega) h'
  obtain ⟨p1, p2⟩ := perft_law hr hd h
  refine ⟨⟨a1, b1⟩, ⟨p1, by rw [p2, a2 0 (by decide)]⟩, ints_congr fun i h8 => ?_⟩
  rw [b2 i h8, a2 i h8, hv' i, hv i, m3 i]
theorem posIn_turn {c : Nat → Int} (hr : RightC c) : PosIn (turnC c) := by
  have hi := inv_of_valid hr.v
  have hm := mir_turn hi
  have hi' := inv_mir hm hi
  have h1 := hr.v.half
  have h2 := hr.v.full
  refine ⟨hi'.bd, hi'.turn, hi'.cast, ?_, h1, show 0 ≤ c 68 by omega⟩
  rcases hi'.ep with h | ⟨_, h, _⟩ <;> omega
end Go.Tb
end
section
namespace Go.Tb
open Go Go.Proofs
variable {z : Nat × Nat}
set_option maxRecDepth 20000
def tqC (c : Nat → Int) (k : Nat) : Nat → Int := fun s => if s < 64 ∧ fl s < k then sw (c (fl s)) else c s
theorem tqC_0 (c : Nat → Int) : tqC c 0 = c := by funext s; unfold tqC; rw [if_neg (by omega)]
theorem tqC_S (c : Nat → Int) {k : Nat} (hk : k < 64) : upd (tqC c k) (fl k) (sw (c k)) = tqC c (k + 1) := by
  funext s
  have h1 := fl_lt hk
  have h2 := fl_fl hk
  rw [upd_at]
  unfold tqC
  by_cases e : s = fl k
  · rw [if_pos e, if_pos ⟨by omega, by rw [e, h2]; omega⟩, e, h2]
  · rw [if_neg e]
    by_cases hs : s < 64
    · have h3 : fl s ≠ k := fun x => e (by rw [← x, fl_fl hs])
      by_cases h4 : fl s < k
      · rw [if_pos ⟨hs, h4⟩, if_pos ⟨hs, by omega⟩]
      · rw [if_neg (by omega), if_neg (by omega)]
    · rw [if_neg (by omega), if_neg (by omega)]
theorem tqC_hi (c : Nat → Int) (k : Nat) {s : Nat} (h : 64 ≤ s) : tqC c k s = c s := by unfold tqC; rw [if_neg (by omega)]
theorem sw_6 {n : Int} (h : 6 < n) : sw n = n - 6 := if_pos h
theorem sw_p {n : Int} (h : ¬ 6 < n) (h0 : 0 < n) : sw n = n + 6 := (if_neg h).trans (if_pos h0)
theorem sw_n {n : Int} (h : ¬ 6 < n) (h0 : ¬ 0 < n) : sw n = n := (if_neg h).trans (if_neg h0)
theorem turn_fin (c : Nat → Int) {a b e : Int} (ha : a = turnC c 64) (hb : b = turnC c 65) (he : e = turnC c 66) : ints .i64 69 (upd (upd (upd (tqC c 64) 64 a) 65 b) 66 e) = ints .i64 69 (turnC c) := by
  refine ints_congr fun i hi => ?_
  simp only [upd_at]
  by_cases h1 : i = 66
  · rw [if_pos h1, h1, he]
  · rw [if_neg h1]
    by_cases h2 : i = 65
    · rw [if_pos h2, h2, hb]
    · rw [if_neg h2]
      by_cases h3 : i = 64
      · rw [if_pos h3, h3, ha]
      · rw [if_neg h3]
        unfold tqC turnC
        by_cases h4 : i < 64
        · rw [if_pos ⟨h4, fl_lt h4⟩, if_pos h4]
        · rw [if_neg (by omega), if_neg h4, if_neg h3, if_neg h2, if_neg h1]
theorem upd_same {g : Nat → Int} {i : Nat} {v : Int} (h : v = g i) : upd g i v = g := by
  funext j; rw [upd_at]; split
  · rename_i e; rw [h, e]
  · rfl
theorem turn_fin2 (c : Nat → Int) {a b : Int} (ha : a = turnC c 64) (hb : b = turnC c 65) (he : c 66 = turnC c 66) : ints .i64 69 (upd (upd (tqC c 64) 64 a) 65 b) = ints .i64 69 (turnC c) := by
  have := turn_fin c (e := c 66) ha hb he
  rw [upd_same] at this
  · exact this
  · rw [upd_at, upd_at, if_neg (by decide), if_neg (by decide), tqC_hi c 64 (by decide)]
attribute [local irreducible] tqC sw fl in
set_option maxHeartbeats 8000000 in
theorem turned_ok (c : Nat → Int) (hb : Bd c) (h64 : 0 ≤ c 64 ∧ c 64 ≤ 1) : FnP (Tz z) 14 [posV c] (posV (turnC c)) := by
  refine ⟨by simp [posV_pl], posV_pl _, start [0, 1, 2, 3, 4, 5, 8, 15, 20, 45] Tryz.func14 rfl (by decide) rfl (by kernel_rfl) (by simp [Tryz.f14]) ?_⟩
  simp only [Tryz.f14]
  unfold posV
  repeat' (first | ((with_reducible refine loop (V := [0, 1, 2, 3, 4, 5, 8, 15, 20, 45]) (fun k : Nat => ([(1, .pointer (some ⟨100, 0, none⟩)), (2, .pointer (some ⟨101, 0, none⟩)), (3, .pointer (some ⟨102, 0, none⟩)), (4, .int .i64 k)], [.cells (ints .i64 69 c) 24, .cells (List.replicate 69 (.int .i64 0)) 24, .cells (ints .i64 69 (tqC c k)) 24])) (fun k => k ≤ 64) (fun k => 64 - k) 0 (by kernel_rfl) (by omega) ?_ (fun k hk => ?_)); rotate_left; have hfl := fun h : k < 64 => fl_lt h; have hbk := fun h : k < 64 => hb k h) | with_reducible refine seq_k fun K hK => ?_ | (with_reducible refine hK _ _ ?_; clear hK) | ((with_reducible first | refine gd_dec ?_ ?_ | refine gd_ndec ?_ ?_ | refine qC_dec ?_ ?_ | refine qC_ndec ?_ ?_ | refine piC_dec ?_ ?_ | refine piC_ndec ?_ ?_ | refine zC_dec ?_ ?_ | refine zC_ndec ?_ ?_ | refine zD_dec ?_ ?_ | refine yC_dec ?_ ?_ | refine yC_ndec ?_ ?_ | refine if_dec ?_ ?_ | refine if_ndec ?_ ?_) <;> intro hh) | simp -implicitDefEqProofs (disch := first | omega | assumption) only [go_sem, ↓reduceIte, Nat.reduceEqDiff, Int.reduceEq, Nat.reduceAdd, Nat.reduceSub, Nat.reduceMul, Nat.mul_one, Nat.one_mul, List.length_nil, List.length_cons, List.nil_append, List.cons_append, List.length_append, List.set_cons_zero, List.set_cons_succ, Nat.zero_add, Nat.sub_zero, Option.isNone_none, Option.isNone_some, Int.toNat_natCast, Nat.add_sub_cancel_left, Bool.not_true, Bool.not_false, BitVec.reduceOfInt, Int.reduceToNat, wr_ints, wr_int69, xor_fl, sub_ints] | ((with_reducible first | refine gd_bool ?_ ?_ | refine if_bool ?_ ?_ | refine qC_bool ?_ ?_ | refine piC_bool ?_ ?_ | refine zC_bool ?_ ?_ | refine zD_bool ?_ ?_ | refine yC_bool ?_ ?_) <;> intro hh) | clear hK)
  all_goals first
    | (rw [tqC_0]; exact VS.sub2 (by simp [Fr.sub, Fr.get]) rfl)
    | (have e := tqC_S c (k := k) (by omega)
       rw [sw_6 (by assumption)] at e
       rw [e]
       exact ⟨k + 1, by omega, by omega, VS.sub2 (by simp [Fr.sub, Fr.get]) rfl⟩)
    | (have e := tqC_S c (k := k) (by omega)
       rw [sw_p (by assumption) (by assumption)] at e
       rw [e]
       exact ⟨k + 1, by omega, by omega, VS.sub2 (by simp [Fr.sub, Fr.get]) rfl⟩)
    | (have e := tqC_S c (k := k) (by omega)
       rw [sw_n (by assumption) (by assumption)] at e
       rw [e]
       exact ⟨k + 1, by omega, by omega, VS.sub2 (by simp [Fr.sub, Fr.get]) rfl⟩)
    | (obtain rfl : k = 64 := by omega
       exact congrArg (fun l : List Value => Value.agg l.toArray) (turn_fin c (a := 1 - c 64) (b := bor .i64 (bshr .i64 (c 65) 2) (bshl .i64 (band .i64 (c 65) 3) 2)) (e := bxor .i64 (c 66) 56) rfl rfl (show bxor .i64 (c 66) 56 = if 0 ≤ c 66 then bxor .i64 (c 66) 56 else c 66 from (if_pos (by assumption)).symm)))
    | (obtain rfl : k = 64 := by omega
       exact congrArg (fun l : List Value => Value.agg l.toArray) (turn_fin2 c (a := 1 - c 64) (b := bor .i64 (bshr .i64 (c 65) 2) (bshl .i64 (band .i64 (c 65) 3) 2)) rfl rfl (show c 66 = if 0 ≤ c 66 then bxor .i64 (c 66) 56 else c 66 from (if_neg (by assumption)).symm)))
set_option maxHeartbeats 4000000 in
theorem mirror_n {c : Nat → Int} {n : Int} (h : ¬ AskC c n) : FnP (Tz z) 6 [posV c, .int .i64 n] (.bool true) := by
  refine ⟨by simp [posV_pl, Pl.int], Pl.bool, start [0, 1, 2, 4, 6, 7, 8, 9, 10, 11, 12, 20] Tryz.func6 rfl (by decide) rfl (by kernel_rfl) (by simp [Tryz.f6]) ?_⟩
  simp only [Tryz.f6]
  unfold posV
  repeat' (first | (with_reducible first | refine call_p (pfTally_F (by assumption)) ?_ | refine qG_call (pfTally_F (by assumption)) ?_ | refine zG_call (pfTally_F (by assumption)) ?_ | refine yG_call (pfTally_F (by assumption)) ?_ | refine piG_call (pfTally_F (by assumption)) ?_ | refine seq_k fun K hK => ?_) | (with_reducible refine hK _ _ ?_; clear hK) | ((with_reducible first | refine gd_dec ?_ ?_ | refine gd_ndec ?_ ?_ | refine qC_dec ?_ ?_ | refine qC_ndec ?_ ?_ | refine piC_dec ?_ ?_ | refine piC_ndec ?_ ?_ | refine zC_dec ?_ ?_ | refine zC_ndec ?_ ?_ | refine zD_dec ?_ ?_ | refine yC_dec ?_ ?_ | refine yC_ndec ?_ ?_ | refine if_dec ?_ ?_ | refine if_ndec ?_ ?_) <;> intro hh) | simp -implicitDefEqProofs (disch := first | omega | assumption) only [go_sem, ↓reduceIte, Nat.reduceEqDiff, Int.reduceEq, Nat.reduceAdd, Nat.reduceSub, Nat.reduceMul, Nat.mul_one, Nat.one_mul, List.length_nil, List.length_cons, List.nil_append, List.cons_append, List.length_append, List.set_cons_zero, List.set_cons_succ, Nat.zero_add, Nat.sub_zero, Option.isNone_none, Option.isNone_some, Int.toNat_natCast, Nat.add_sub_cancel_left, Bool.not_true, Bool.not_false, BitVec.reduceOfInt, Int.reduceToNat, onGd_T, onGd_F, pickV_T, pickV_F, decT, decF, zero8, sub_ints, wr_i8, wr_1i] | ((with_reducible first | refine gd_bool ?_ ?_ | refine if_bool ?_ ?_ | refine qC_bool ?_ ?_ | refine piC_bool ?_ ?_ | refine zC_bool ?_ ?_ | refine zD_bool ?_ ?_ | refine yC_bool ?_ ?_) <;> intro hh) | clear hK)
  all_goals first
    | rfl
set_option maxHeartbeats 4000000 in
theorem mirror_d {c : Nat → Int} {d : Nat} (hr : RightC c) (hd : d + 1 ≤ 5) (hp : PosD (d + 1) c) : FnP (Tz z) 6 [posV c, .int .i64 ((d + 1 : Nat) : Int)] (.bool true) := by
  have hpr := hr.posIn
  have ht := pfTally_T (z := z) hr hd hp
  have htu := turned_ok (z := z) c hpr.bd hpr.turn
  cases hb : (tallyF (d + 1) c 6000).2.1
  · rw [hb] at ht
    refine ⟨by simp [posV_pl, Pl.int], Pl.bool, start [0, 1, 2, 4, 6, 7, 8, 9, 10, 11, 12, 20] Tryz.func6 rfl (by decide) rfl (by kernel_rfl) (by simp [Tryz.f6]) ?_⟩
    simp only [Tryz.f6]
    unfold posV
    repeat' (first | (with_reducible first | refine call_p (ht) ?_ | refine qG_call (ht) ?_ | refine zG_call (ht) ?_ | refine yG_call (ht) ?_ | refine piG_call (ht) ?_ | refine seq_k fun K hK => ?_) | (with_reducible refine hK _ _ ?_; clear hK) | ((with_reducible first | refine gd_dec ?_ ?_ | refine gd_ndec ?_ ?_ | refine qC_dec ?_ ?_ | refine qC_ndec ?_ ?_ | refine piC_dec ?_ ?_ | refine piC_ndec ?_ ?_ | refine zC_dec ?_ ?_ | refine zC_ndec ?_ ?_ | refine zD_dec ?_ ?_ | refine yC_dec ?_ ?_ | refine yC_ndec ?_ ?_ | refine if_dec ?_ ?_ | refine if_ndec ?_ ?_) <;> intro hh) | simp -implicitDefEqProofs (disch := first | omega | assumption) only [go_sem, ↓reduceIte, Nat.reduceEqDiff, Int.reduceEq, Nat.reduceAdd, Nat.reduceSub, Nat.reduceMul, Nat.mul_one, Nat.one_mul, List.length_nil, List.length_cons, List.nil_append, List.cons_append, List.length_append, List.set_cons_zero, List.set_cons_succ, Nat.zero_add, Nat.sub_zero, Option.isNone_none, Option.isNone_some, Int.toNat_natCast, Nat.add_sub_cancel_left, Bool.not_true, Bool.not_false, BitVec.reduceOfInt, Int.reduceToNat, onGd_T, onGd_F, pickV_T, pickV_F, decT, decF, zero8, sub_ints, wr_i8, wr_1i] | ((with_reducible first | refine gd_bool ?_ ?_ | refine if_bool ?_ ?_ | refine qC_bool ?_ ?_ | refine piC_bool ?_ ?_ | refine zC_bool ?_ ?_ | refine zD_bool ?_ ?_ | refine yC_bool ?_ ?_) <;> intro hh) | clear hK)
    all_goals first
      | rfl
  · rw [hb] at ht
    obtain ⟨⟨a1, a2⟩, ⟨p1, p2⟩, e⟩ := mirror_law hr hd hb
    have hA := PerftTags_ok (z := z) c d hd hpr a1
    have hB := PerftTags_ok (z := z) (turnC c) d hd (posIn_turn hr) a2
    rw [e] at hB
    have hP := Perft_ok (z := z) c (d + 1) hd hpr p1
    rw [p2] at hP
    generalize ptN (d + 1) (stC c) = T at *
    refine ⟨by simp [posV_pl, Pl.int], Pl.bool, start [0, 1, 2, 4, 6, 7, 8, 9, 10, 11, 12, 20] Tryz.func6 rfl (by decide) rfl (by kernel_rfl) (by simp [Tryz.f6]) ?_⟩
    simp only [Tryz.f6]
    unfold posV at *
    repeat' (first | (with_reducible first | refine call_p (ht) ?_ | refine qG_call (ht) ?_ | refine zG_call (ht) ?_ | refine yG_call (ht) ?_ | refine piG_call (ht) ?_ | refine call_p (hA) ?_ | refine qG_call (hA) ?_ | refine zG_call (hA) ?_ | refine yG_call (hA) ?_ | refine piG_call (hA) ?_ | refine call_p (htu) ?_ | refine qG_call (htu) ?_ | refine zG_call (htu) ?_ | refine yG_call (htu) ?_ | refine piG_call (htu) ?_ | refine call_p (hB) ?_ | refine qG_call (hB) ?_ | refine zG_call (hB) ?_ | refine yG_call (hB) ?_ | refine piG_call (hB) ?_ | refine call_p (hP) ?_ | refine qG_call (hP) ?_ | refine zG_call (hP) ?_ | refine yG_call (hP) ?_ | refine piG_call (hP) ?_ | refine seq_k fun K hK => ?_) | (with_reducible refine hK _ _ ?_; clear hK) | ((with_reducible first | refine gd_dec ?_ ?_ | refine gd_ndec ?_ ?_ | refine qC_dec ?_ ?_ | refine qC_ndec ?_ ?_ | refine piC_dec ?_ ?_ | refine piC_ndec ?_ ?_ | refine zC_dec ?_ ?_ | refine zC_ndec ?_ ?_ | refine zD_dec ?_ ?_ | refine yC_dec ?_ ?_ | refine yC_ndec ?_ ?_ | refine if_dec ?_ ?_ | refine if_ndec ?_ ?_) <;> intro hh) | simp -implicitDefEqProofs (disch := first | omega | assumption) only [go_sem, ↓reduceIte, Nat.reduceEqDiff, Int.reduceEq, Nat.reduceAdd, Nat.reduceSub, Nat.reduceMul, Nat.mul_one, Nat.one_mul, List.length_nil, List.length_cons, List.nil_append, List.cons_append, List.length_append, List.set_cons_zero, List.set_cons_succ, Nat.zero_add, Nat.sub_zero, Option.isNone_none, Option.isNone_some, Int.toNat_natCast, Nat.add_sub_cancel_left, Bool.not_true, Bool.not_false, BitVec.reduceOfInt, Int.reduceToNat, onGd_T, onGd_F, pickV_T, pickV_F, decT, decF, zero8, sub_ints, wr_i8, wr_1i, e_28s] | ((with_reducible first | refine gd_bool ?_ ?_ | refine if_bool ?_ ?_ | refine qC_bool ?_ ?_ | refine piC_bool ?_ ?_ | refine zC_bool ?_ ?_ | refine zD_bool ?_ ?_ | refine yC_bool ?_ ?_) <;> intro hh) | clear hK)
    all_goals first
      | rfl
theorem FnPfMirror_ok (z : Nat × Nat) (c : Nat → Int) (n : Int) : FnP (Tz z) 6 [posV c, .int .i64 n] (.bool true) := by
  by_cases ha : AskC c n
  · obtain ⟨hr, h1, h5⟩ := ha
    obtain ⟨d, hd⟩ : ∃ d : Nat, n = ((d + 1 : Nat) : Int) := ⟨(n - 1).toNat, by omega⟩
    subst hd
    exact mirror_d hr (by omega) (posD_right hr (by omega))
  · exact mirror_n ha
end Go.Tb
end
