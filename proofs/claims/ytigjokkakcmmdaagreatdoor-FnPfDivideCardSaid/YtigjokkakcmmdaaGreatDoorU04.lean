/-
  A part of the proof (my own): of the texts that the claim's last text rests on: parts V5, V7.
-/
import Derived.Test.YtigjokkakcmmdaaGreatDoorU03
set_option linter.unusedSimpArgs false
set_option linter.unusedVariables false
section
namespace Go.Tb
open Go Go.Proofs
set_option maxRecDepth 20000
attribute [local irreducible] madeC attB
section
variable {c c' : Nat → Int} {f t s k r : Nat} {m : M3} {p : Int}
theorem leg_inv (hi : InvC c) (hm : m ∈ legL c) : InvC (madeM c m) := by
  obtain ⟨a, b⟩ := leg_kind hi hm
  exact inv_step hi a b
end
def sumM (g : M3 → Int) : List M3 → Int
  | [] => 0
  | m :: l => g m + sumM g l
theorem sumM_nn {g : M3 → Int} : ∀ l : List M3, (∀ m ∈ l, 0 ≤ g m) → 0 ≤ sumM g l
  | [], _ => Int.le_refl 0
  | m :: l, e => by
    have h1 := e m (by simp)
    have h2 := sumM_nn l fun x hx => e x (by simp [hx])
    simp only [sumM]; omega
theorem tLoop_iff {G : M3 → Int → TR} {good : M3 → Prop} {a : M3 → Int} {u : M3 → Nat → Int} (ha : ∀ m, 0 ≤ a m) (hG : ∀ m w, 0 ≤ w → ((G m w).2.1 = true ↔ good m ∧ a m ≤ w)) (hv : ∀ m w, 0 ≤ w → (G m w).2.1 = true → (∀ i, (G m w).1 i = u m i) ∧ (G m w).2.2 = w - a m) :
    ∀ (l : List M3) (n : Nat → Int) (w : Int), 0 ≤ w → ((tLoop G l n w).2.1 = true ↔ (∀ m ∈ l, good m) ∧ sumM a l ≤ w) ∧ ((tLoop G l n w).2.1 = true → (∀ i, (tLoop G l n w).1 i = n i + sumM (fun m => u m i) l) ∧ (tLoop G l n w).2.2 = w - sumM a l)
  | [], n, w, h0 => by
    simp only [tLoop, sumM]
    exact ⟨⟨fun _ => ⟨fun m hm => (by cases hm), h0⟩, fun _ => trivial⟩, fun _ => ⟨fun i => by omega, by omega⟩⟩
  | m :: l, n, w, h0 => by
    have h1 := hG m w h0
    have h2 := hv m w h0
    have h3 := ha m
    have h4 := sumM_nn l fun x _ => ha x
    rw [tLoop]
    by_cases hx : (G m w).2.1 = true
    · rw [if_pos hx]
      obtain ⟨e1, e2⟩ := h2 hx
      obtain ⟨g1, g2⟩ := h1.1 hx
      obtain ⟨ih1, ih2⟩ := tLoop_iff ha hG hv l (fun i => n i + (G m w).1 i) (G m w).2.2 (by omega)
      refine ⟨?_, fun ht => ?_⟩
      · rw [ih1]
        simp only [sumM]
        constructor
        · rintro ⟨b1, b2⟩
          refine ⟨fun x hx => ?_, by omega⟩
          rcases List.mem_cons.1 hx with rfl | hx
          · exact g1
          · exact b1 x hx
        · rintro ⟨b1, b2⟩
          exact ⟨fun x hx => b1 x (by simp [hx]), by omega⟩
      · obtain ⟨b1, b2⟩ := ih2 ht
        refine ⟨fun i => ?_, ?_⟩
        · rw [b1 i, e1 i]; simp only [sumM]; omega
        · rw [b2, e2]; simp only [sumM]; omega
    · rw [if_neg hx]
      refine ⟨⟨fun e => (by cases e), fun ⟨b1, b2⟩ => ?_⟩, fun e => (by cases e)⟩
      simp only [sumM] at b2
      exact absurd (h1.2 ⟨b1 m (by simp), by omega⟩) hx
def goodT : Nat → (Nat → Int) → Prop
  | 0, _ => False
  | 1, c => (legL c).length ≤ 218 ∧ ∀ m ∈ legL c, dbtB c m = false ∧ (legL (madeM c m)).length ≤ 218
  | d + 2, c => (legL c).length ≤ 218 ∧ ∀ m ∈ legL c, dbtB c m = false ∧ goodT (d + 1) (madeM c m)
noncomputable def costT : Nat → (Nat → Int) → Int
  | 0, _ => 0
  | 1, c => sumM (fun _ => 1) (legL c)
  | d + 2, c => sumM (fun m => 1 + costT (d + 1) (madeM c m)) (legL c)
noncomputable def talT : Nat → (Nat → Int) → Nat → Int
  | 0, _, _ => 0
  | 1, c, i => sumM (fun m => tagI c m i) (legL c)
  | d + 2, c, i => sumM (fun m => talT (d + 1) (madeM c m) i) (legL c)
theorem costT_nn : ∀ (d : Nat) (c : Nat → Int), 0 ≤ costT d c
  | 0, _ => Int.le_refl 0
  | 1, c => sumM_nn _ fun _ _ => by decide
  | d + 2, c => sumM_nn _ fun m _ => by have := costT_nn (d + 1) (madeM c m); omega
theorem gOne_iff (c : Nat → Int) (m : M3) (w : Int) : (gOne c m w).2.1 = true ↔ (dbtB c m = false ∧ (legL (madeM c m)).length ≤ 218) ∧ 1 ≤ w := by
  constructor
  · intro h
    obtain ⟨a, b, _⟩ := gOne_all h
    refine ⟨⟨a, by omega⟩, ?_⟩
    unfold gOne at h
    split at h
    · cases h
    · rename_i h1
      rcases Int.lt_or_le (w - 1) 0 with h2 | h2
      · exact absurd (.inl h2) h1
      · omega
  · rintro ⟨⟨a, b⟩, d⟩
    unfold gOne
    rw [if_neg (by rw [a]; simp; omega), if_neg (by omega)]
theorem gOne_v {c : Nat → Int} {m : M3} {w : Int} (h : (gOne c m w).2.1 = true) : (gOne c m w).2.2 = w - 1 := by
  unfold gOne; split <;> (try split) <;> rfl
theorem tally_iff : ∀ (d : Nat) (c : Nat → Int) (w : Int), 0 ≤ w → ((tallyF (d + 1) c w).2.1 = true ↔ goodT (d + 1) c ∧ costT (d + 1) c ≤ w) ∧ ((tallyF (d + 1) c w).2.1 = true → (∀ i, (tallyF (d + 1) c w).1 i = talT (d + 1) c i) ∧ (tallyF (d + 1) c w).2.2 = w - costT (d + 1) c)
  | 0, c, w, h0 => by
    rw [Nat.zero_add, tally_1]
    have key := tLoop_iff (G := gOne c) (good := fun m => dbtB c m = false ∧ (legL (madeM c m)).length ≤ 218) (a := fun _ => 1) (u := fun m => tagI c m) (fun _ => by decide) (fun m w _ => gOne_iff c m w) (fun m w _ h => ⟨fun i => by rw [(gOne_all h).2.2], gOne_v h⟩) (legL c) zeroF w h0
    unfold goodT costT talT
    by_cases hl : 218 < (legL c).length
    · rw [if_pos hl]
      exact ⟨⟨fun e => (by cases e), fun e => absurd e.1.1 (by omega)⟩, fun e => (by cases e)⟩
    · rw [if_neg hl]
      refine ⟨key.1.trans ⟨fun e => ⟨⟨by omega, e.1⟩, e.2⟩, fun e => ⟨e.1.2, e.2⟩⟩, fun e => ?_⟩
      obtain ⟨b1, b2⟩ := key.2 e
      exact ⟨fun i => by rw [b1 i, zeroF_at], b2⟩
  | d + 1, c, w, h0 => by
    rw [tally_S]
    have hG : ∀ (m : M3) (w : Int), 0 ≤ w → ((gMore d c m w).2.1 = true ↔ (dbtB c m = false ∧ goodT (d + 1) (madeM c m)) ∧ 1 + costT (d + 1) (madeM c m) ≤ w) := fun m w h0 => by
      have hc := costT_nn (d + 1) (madeM c m)
      constructor
      · intro h
        obtain ⟨a, b, _⟩ := gMore_all h
        have hw : 0 ≤ w - 1 := by
          unfold gMore at h
          split at h
          · cases h
          · rename_i h1
            rcases Int.lt_or_le (w - 1) 0 with h2 | h2
            · exact absurd (.inl h2) h1
            · exact h2
        obtain ⟨q1, q2⟩ := (tally_iff d (madeM c m) (w - 1) hw).1.1 b
        exact ⟨⟨a, q1⟩, by omega⟩
      · rintro ⟨⟨a, b⟩, e⟩
        unfold gMore
        rw [if_neg (by rw [a]; simp; omega)]
        exact (tally_iff d (madeM c m) (w - 1) (by omega)).1.2 ⟨b, by omega⟩
    have hv : ∀ (m : M3) (w : Int), 0 ≤ w → (gMore d c m w).2.1 = true → (∀ i, (gMore d c m w).1 i = talT (d + 1) (madeM c m) i) ∧ (gMore d c m w).2.2 = w - (1 + costT (d + 1) (madeM c m)) := fun m w h0 h => by
      obtain ⟨⟨a, b⟩, e⟩ := (hG m w h0).1 h
      have hc := costT_nn (d + 1) (madeM c m)
      have ih := (tally_iff d (madeM c m) (w - 1) (by omega)).2 (gMore_all h).2.1
      unfold gMore
      rw [if_neg (by rw [a]; simp; omega)]
      exact ⟨ih.1, by rw [ih.2]; omega⟩
    have key := tLoop_iff (G := gMore d c) (good := fun m => dbtB c m = false ∧ goodT (d + 1) (madeM c m)) (a := fun m => 1 + costT (d + 1) (madeM c m)) (u := fun m => talT (d + 1) (madeM c m)) (fun m => by have := costT_nn (d + 1) (madeM c m); omega) hG hv (legL c) zeroF w h0
    unfold goodT costT talT
    by_cases hl : 218 < (legL c).length
    · rw [if_pos hl]
      exact ⟨⟨fun e => (by cases e), fun e => absurd e.1.1 (by omega)⟩, fun e => (by cases e)⟩
    · rw [if_neg hl]
      refine ⟨key.1.trans ⟨fun e => ⟨⟨by omega, e.1⟩, e.2⟩, fun e => ⟨e.1.2, e.2⟩⟩, fun e => ?_⟩
      obtain ⟨b1, b2⟩ := key.2 e
      exact ⟨fun i => by rw [b1 i, zeroF_at], b2⟩
end Go.Tb
end
section
namespace Go.Tb
open Go Go.Proofs
set_option maxRecDepth 20000
theorem Divide_okS {z : Nat × Nat} (c : Nat → Int) (d : Nat) (hd : d + 1 ≤ 5) (hc : PosIn c) (hp : PfOk (d + 1) (stC c)) : FnM (Tz z) 11 [posV c, .int .i64 ((d + 1 : Nat) : Int)] [] (dvOk (allS (stC c)).length (msL (lmS (stC c) (allS (stC c)).length)) (isL (cnS d (stC c) (allS (stC c)).length))) (dvV (allS (stC c)).length) (dvM (msL (lmS (stC c) (allS (stC c)).length)) (isL (cnS d (stC c) (allS (stC c)).length))) :=
  Divide_ok c d hd hc hp
attribute [local irreducible] madeC attB
section
variable {c : Nat → Int} {m : M3}
theorem made_67 (hi : InvC c) (h : 0 ≤ c 67 ∧ c 67 ≤ 1000) : 0 ≤ madeM c m 67 ∧ madeM c m 67 ≤ 1001 := by
  unfold madeM; rw [madeC_67]; unfold mdHalf; split <;> omega
theorem made_68 (hi : InvC c) (h : 1 ≤ c 68 ∧ c 68 ≤ 1000) : 0 ≤ madeM c m 68 ∧ madeM c m 68 ≤ 1001 := by
  have := hi.turn
  unfold madeM; rw [madeC_68]; omega
theorem posIn_made (hi : InvC c) (hm : m ∈ legL c) (h1 : 0 ≤ c 67 ∧ c 67 ≤ 1000) (h2 : 1 ≤ c 68 ∧ c 68 ≤ 1000) : PosIn (madeM c m) := by
  have hi' := leg_inv hi hm
  refine ⟨hi'.bd, hi'.turn, hi'.cast, ?_, (made_67 hi h1).1, (made_68 hi h2).1⟩
  rcases hi'.ep with h | ⟨_, h, _⟩ <;> omega
end
attribute [local irreducible] pfN nxt allS tallyF legL madeM
theorem pf_made {c : Nat → Int} {s : PSt} {M : Mv} {d : Nat} (hi : InvC c) (hs : RepS c s) (h1 : 0 ≤ c 67 ∧ c 67 ≤ 1000) (h2 : 1 ≤ c 68 ∧ c 68 ≤ 1000) (hh : 0 ≤ s.2.1.half ∧ s.2.1.half ≤ 1000) (hm : 0 ≤ s.2.1.mc ∧ s.2.1.mc ≤ 1000) (hd : d ≤ 5) (hg : goodT (d + 1) c) (hM : M ∈ allS s) :
    PfOk d (stC (madeM c (toM M))) ∧ pfN d (stC (madeM c (toM M))) = pfN d (nxt s M) := by
  have hml : toM M ∈ legL c := (all_perm hs hi).mem_iff.1 (List.mem_map_of_mem hM)
  cases d with
  | zero => exact ⟨trivial, by rw [pfN_0, pfN_0]⟩
  | succ e =>
    unfold goodT at hg
    obtain ⟨q1, q2⟩ := hg.2 _ hml
    have hi' := leg_inv hi hml
    have hn := costT_nn (e + 1) (madeM c (toM M))
    have ht := (tally_iff e (madeM c (toM M)) (costT (e + 1) (madeM c (toM M))) hn).1.2 ⟨q2, Int.le_refl _⟩
    have n1 : 0 ≤ (nxt s M).2.1.half ∧ (nxt s M).2.1.half ≤ 1000 + 1 := nxt_half s M hh
    have n2 : 0 ≤ (nxt s M).2.1.mc ∧ (nxt s M).2.1.mc ≤ 1000 + 1 := nxt_mc s M hm
    obtain ⟨a1, a2⟩ := count_law e _ (nxt s M) _ 1001 hi' (rep_step hs hi hM q1) ⟨n1.1, by omega⟩ ⟨n2.1, by omega⟩ (by omega) ht
    obtain ⟨b1, b2⟩ := count_law e _ (stC (madeM c (toM M))) _ 1001 hi' (rep_init hi') (made_67 hi h1) (made_68 hi h2) (by omega) ht
    exact ⟨b1, by rw [b2, a2]⟩
theorem mAt_map {l : List Mv} {i : Nat} (h : i < l.length) : mAt (l.map toM) i = toM (vAt l i) := by
  have h1 := mAt_get (l := l.map toM) (i := i) (by simpa using h)
  rw [List.getElem?_map, vAt_get h] at h1
  exact (Option.some.inj h1).symm
theorem iAt_map {f : Mv → Int} {l : List Mv} {i : Nat} (h : i < l.length) : iAt (l.map f) i = f (vAt l i) := by
  have h1 := iAt_get (l := l.map f) (i := i) (by simpa using h)
  rw [List.getElem?_map, vAt_get h] at h1
  exact (Option.some.inj h1).symm
theorem sumK_congr {f g : Nat → Int} : ∀ k : Nat, (∀ i, i < k → f i = g i) → sumK f k = sumK g k
  | 0, _ => rfl
  | k + 1, h => by rw [sumK_S, sumK_S, sumK_congr k fun i hi => h i (by omega), h k (by omega)]
theorem divF_of (z : Nat × Nat) {c : Nat → Int} {d : Nat} (hr : RightC c) (hd : d + 1 ≤ 5) (h : (tallyF (d + 1) c 6000).2.1 = true) : DivF z c d (lmS (stC c) (allS (stC c)).length) (cnS d (stC c) (allS (stC c)).length) ((tallyF (d + 1) c 6000).1 0) := by
  have hi := inv_of_valid hr.v
  have h1 := hr.v.half
  have h2 := hr.v.full
  have h3 := hr.half
  have h4 := hr.full
  have hs := rep_init hi
  have hpos := posOk_of hi (by omega) (by omega)
  have hg := ((tally_iff d c 6000 (by decide)).1.1 h).1
  obtain ⟨p1, p2⟩ := perft_law hr hd h
  have hlen := allS_len p1.1
  have hp := all_perm hs hi
  have e1 : lmS (stC c) (allS (stC c)).length = (allS (stC c)).map toM := by unfold lmS; rw [List.take_length]
  have e2 : cnS d (stC c) (allS (stC c)).length = (allS (stC c)).map fun M => pfN d (nxt (stC c) M) := by unfold cnS; rw [List.take_length]
  have e3 : (lmS (stC c) (allS (stC c)).length).length = (allS (stC c)).length := lmS_len (Nat.le_refl _)
  have hmAt : ∀ i, i < (allS (stC c)).length → mAt (lmS (stC c) (allS (stC c)).length) i = toM (vAt (allS (stC c)) i) := fun i hi => by rw [e1, mAt_map hi]
  have hiAt : ∀ i, i < (allS (stC c)).length → iAt (cnS d (stC c) (allS (stC c)).length) i = pfN d (nxt (stC c) (vAt (allS (stC c)) i)) := fun i hi => by rw [e2, iAt_map hi]
  have hmem : ∀ i, i < (allS (stC c)).length → mAt (lmS (stC c) (allS (stC c)).length) i ∈ legL c := fun i hi => by
    rw [hmAt i hi]; exact hp.mem_iff.1 (List.mem_map_of_mem (vAt_mem hi))
  have hfb : ∀ i, i < (allS (stC c)).length → 0 ≤ iAt (cnS d (stC c) (allS (stC c)).length) i ∧ iAt (cnS d (stC c) (allS (stC c)).length) i ≤ 220 ^ d := fun i hi => by
    rw [hiAt i hi]; exact pfN_bd d _ (p1.2 _ (vAt_mem hi)).2
  have h5 := pow_le5 (d := d) (by omega)
  refine ⟨?_, ?_, ?_, ?_, ?_, ?_, ?_, ?_, ?_, ?_, ?_⟩
  · rw [e3]; exact cnS_len (Nat.le_refl _)
  · rw [e3, ← hp.length_eq, List.length_map]
  · intro k i hk hi'
    rw [e3] at hi'
    intro e
    have hnd : ((allS (stC c)).map toM).Nodup := hp.nodup_iff.2 (leg_nd hi)
    have g1 := mAt_get (l := (allS (stC c)).map toM) (i := k) (by simp; omega)
    have g2 := mAt_get (l := (allS (stC c)).map toM) (i := i) (by simp; omega)
    rw [e1] at e
    rw [List.getElem?_eq_getElem (by simp; omega), Option.some.injEq] at g1 g2
    have := (List.getElem_inj hnd).1 (g1.trans (e.trans g2.symm))
    omega
  · intro i hi'; rw [e3] at hi'; exact hmem i hi'
  · intro i hi'; rw [e3] at hi'; exact legL_bd hpos _ (hmem i hi')
  · intro i hi'
    rw [e3] at hi'
    have hM := vAt_mem hi'
    obtain ⟨q1, q2⟩ := pf_made (M := vAt (allS (stC c)) i) (d := d) hi hs ⟨h1, h3⟩ ⟨h2, h4⟩ ⟨h1, h3⟩ ⟨show 0 ≤ c 68 by omega, h4⟩ (by omega) hg hM
    have hml : toM (vAt (allS (stC c)) i) ∈ legL c := hp.mem_iff.1 (List.mem_map_of_mem hM)
    have := Perft_ok (z := z) (madeM c (toM (vAt (allS (stC c)) i))) d (by omega) (posIn_made hi hml ⟨h1, h3⟩ ⟨h2, h4⟩) q1
    rw [q2] at this
    rw [hmAt i hi', hiAt i hi']; exact this
  · rw [e3, sumK_congr _ hiAt, ← pfN_S, p2]
  · intro k hk
    rw [e3] at hk
    exact pfS_bd (d := d) (by omega) hlen hk hfb
  · intro k hk
    rw [e3] at hk
    have := hfb k hk
    exact ⟨this.1, by omega⟩
  · rw [e3]; exact hlen
  · rw [e3]
    exact Divide_okS c d hd hr.posIn p1
theorem FnPfDivide_ok (z : Nat × Nat) (c : Nat → Int) (n : Int) : FnP (Tz z) 5 [posV c, .int .i64 n] (.bool true) := by
  by_cases ha : AskC c n
  · obtain ⟨hr, h1, h5⟩ := ha
    obtain ⟨d, hd⟩ : ∃ d : Nat, n = ((d + 1 : Nat) : Int) := ⟨(n - 1).toNat, by omega⟩
    subst hd
    have hpd := posD_right hr (d := d + 1) (by omega)
    cases hb : (tallyF (d + 1) c 6000).2.1
    · exact divide_f hr (by omega) hpd hb
    · have ht := pfTally_T (z := z) hr (by omega) hpd
      rw [hb] at ht
      exact divide_t (by omega) hpd.ok ht (divF_of z hr (by omega) hb)
  · exact divide_n ha
end Go.Tb
end
