/-
  A part of the proof (my own): of the texts that the claim's last text rests on: parts J3, J4, O2, O3.
-/
import Derived.Test.YtigjokkakcmmdaaGreatDoorT28
import Derived.Test.YtigjokkakcmmdaaGreatDoorT10
set_option linter.unusedSimpArgs false
set_option linter.unusedVariables false
section
namespace Go.Tb
open Go Go.Proofs
variable {z : Nat × Nat}
set_option maxRecDepth 20000
theorem pred2 (d : Nat) : ((d + 2 : Nat) : Int) - 1 = ((d + 1 : Nat) : Int) := by omega
theorem gMore_f {d : Nat} {c : Nat → Int} {m : M3} {w : Int} (h : w - 1 < 0 ∨ dbtB c m = true) : gMore d c m w = (zeroF, false, w - 1) := if_pos h
theorem gMore_t {d : Nat} {c : Nat → Int} {m : M3} {w : Int} (h1 : ¬ w - 1 < 0) (h2 : dbtB c m = false) : gMore d c m w = tallyF (d + 1) (madeM c m) (w - 1) := if_neg (by rintro (h | h); (· exact h1 h); (· rw [h2] at h; cases h))
theorem gMore_bd (d : Nat) (c : Nat → Int) (m : M3) (w : Int) (h : 0 ≤ w) : TrB w (gMore d c m w) := by
  have hz : ∀ i : Nat, (0 : Int) ≤ zeroF i ∧ zeroF i ≤ w - (w - 1) := fun i => by show (0 : Int) ≤ 0 ∧ (0 : Int) ≤ w - (w - 1); omega
  by_cases h1 : w - 1 < 0 ∨ dbtB c m = true
  · rw [gMore_f h1]; exact ⟨fun h => (by cases h), by show -1 ≤ w - 1; omega, by show w - 1 ≤ w; omega, hz⟩
  · have h9 : 0 ≤ w - 1 := by
      rcases Int.lt_or_le (w - 1) 0 with h9 | h9
      · exact absurd (.inl h9) h1
      · exact h9
    rw [gMore_t (fun h => h1 (.inl h)) (by cases hd : dbtB c m; (· rfl); (· exact absurd (.inr hd) h1))]
    obtain ⟨g0, g1, g2, g3⟩ := tallyF_bd (d + 1) (madeM c m) (w - 1) h9
    exact ⟨g0, g1, by omega, fun i => by have := g3 i; omega⟩
theorem rl_res {σ : Nat → Nat} {k : Nat} {f : Nat → Int} {b : Bool} : rl σ (.tuple [.agg (ints .i64 k f).toArray, .bool b].toArray) = .tuple [.agg (ints .i64 k f).toArray, .bool b].toArray := by
  simp [map_ints]
def nAd (n x : Nat → Int) (j : Nat) : Nat → Int := fun i => n i + if i < j then x i else 0
theorem nAd_0 (n x : Nat → Int) : nAd n x 0 = n := by funext i; simp [nAd]
theorem nAd_at (n x : Nat → Int) (j : Nat) : nAd n x j j = n j := by simp [nAd]
theorem nAd_S (n x : Nat → Int) (j : Nat) : upd (nAd n x j) j (n j + x j) = nAd n x (j + 1) := by
  funext i
  simp only [upd, nAd]
  by_cases hi : i = j
  · subst hi; simp
  · simp [hi, show i < j + 1 ↔ i < j by omega]
theorem nAd_end (n x : Nat → Int) : ints .i64 8 (nAd n x 8) = ints .i64 8 (fun i => n i + x i) :=
  ints_congr fun i hi => by simp [nAd, hi]
attribute [local irreducible] fl8 nFl tkB psB ksB ckB mtB stB flagB legL madeM dbtB tallyF tLoop gOne gMore tagI attB in
set_option maxHeartbeats 8000000 in
theorem tally_okS {d : Nat} (hd : d ≤ 100) (ih : TalC z (d + 1)) : TalC z (d + 2) := by
  intro c w h hpd hw0 hw1 hok
  have hc := hpd.ok
  have hz := slOk_z hok
  refine ⟨?_, ?_, fun _ _ o ho => by simp at ho, CallM.shiftX (start [0, 1, 2, 3, 4, 8, 9, 10, 12, 13, 14, 15, 16, 17, 18, 19, 20, 21, 22, 23, 24, 27, 29, 30, 31, 32, 48, 56, 67, 69, 70, 83, 147, 148, 149, 152] Tryz.func38 rfl (by decide) rfl (by kernel_rfl) (by simp [Tryz.f38]) ?_)⟩
  · intro u hu
    simp only [List.mem_cons, List.not_mem_nil, or_false] at hu
    rcases hu with rfl | rfl | rfl | rfl
    · exact (posV_pl c).wf _
    · exact wf_slH (by simp)
    · exact wf_int
    · exact wf_pt (by simp)
  · intro o ho
    simp only [List.mem_cons, List.not_mem_nil, or_false] at ho
    rcases ho with rfl | rfl
    · exact (slB_C (σ := fun i => i) (msL_pl _) hok).2
    · exact plW (pl_int1 w)
  simp only [Tryz.f38]
  unfold posV
  repeat' (first | ((with_reducible refine loop (c := Code.seq (Code.region 5 _ _) _) (V := [0, 1, 2, 3, 4, 8, 9, 10, 12, 13, 14, 15, 16, 17, 18, 19, 20, 21, 22, 23, 24, 27, 29, 30, 31, 32, 48, 56, 67, 69, 70, 83, 147, 148, 149, 152]) (fun s : TSt => ([(2, .int .i64 ((d + 2 : Nat) : Int)), (3, .pointer (some ⟨101, 0, none⟩)), (4, .pointer (some ⟨102, 0, none⟩)), (8, .pointer (some ⟨103, 0, none⟩)), (9, .bool false), (10, .pointer (some ⟨104, 0, none⟩)), (29, slH 100 (legL c).length h), (30, .int .i64 (legL c).length), (31, .int .i64 s.k)], [slB 38 (msL (legL c)) h, .cells [.int .i64 s.w] 3, .cells (ints .i64 69 c) 24, .cells (ints .i64 8 zeroF) 28, .cells (ints .i64 8 s.n) 28])) (fun s => tGood (gMore d c) (legL c) w (tallyF (d + 2) c w) s) (fun s => (legL c).length - s.k) ⟨0, zeroF, w⟩ (by kernel_rfl) ?_ ?_ (fun s hs => ?_)); (· exact ⟨Nat.zero_le _, by rw [tally_S, if_neg (by omega), List.drop_zero], hw0, Int.le_refl w, fun i => by show (0 : Int) ≤ 0 ∧ (0 : Int) ≤ w - w; omega⟩); (· exact VS.sub2 (by simp [Fr.sub, Fr.get]) rfl); obtain ⟨k, n, w'⟩ := s; obtain ⟨hs1, _, hs3, hs4, hs5⟩ := id hs; simp only at hs1 hs3 hs4 hs5; have hs50 := hs5 0; have hok2 := hok; have hmb := fun hlt : k < (legL c).length => legL_bd hc _ (mAt_mem hlt); have hqb := fun hlt : k < (legL c).length => hpd.2 _ (mAt_mem hlt)) | (have hne : (legL c).length ≠ 0 := (by omega); have hm := hmb (by omega); have hqd : PosD (d + 1) (madeM c (mAt (legL c) k)) := hqb (by omega); have hq := hqd.ok; have hm1 := hm.1; have hm2 := hm.2.1; have hm3 := hm.2.2; have hcm := hc.bd (mAt (legL c) k).1.toNat (by omega); obtain ⟨tl0, cap0, rfl, ht0⟩ := hold_some hok2 hne; clear hok2 hne hmb hqb; simp only [slH_some, slB_some]) | (with_reducible refine seq_y (a := Code.region 11 _ _) (fun x : Hold => ([(2, .int .i64 ((d + 2 : Nat) : Int)), (3, .pointer (some ⟨101, 0, none⟩)), (4, .pointer (some ⟨102, 0, none⟩)), (8, .pointer (some ⟨103, 0, none⟩)), (9, .bool false), (10, .pointer (some ⟨104, 0, none⟩)), (12, .pointer (some ⟨105, 0, none⟩)), (13, .pointer (some ⟨106, 0, none⟩)), (14, slH 107 (legL (madeM c (mAt (legL c) k))).length x), (29, .slice (some ⟨100, 0, none⟩) (legL c).length cap0), (30, .int .i64 (legL c).length), (31, .int .i64 k)], [.cells (msL (legL c) ++ tl0) 38, .cells [.int .i64 (w' - 1)] 3, .cells (ints .i64 69 c) 24, .cells (ints .i64 8 zeroF) 28, .cells (ints .i64 8 n) 28, .cells (mB (mAt (legL c) k)) 38, .cells (ints .i64 69 (madeM c (mAt (legL c) k))) 24, slB 38 (msL (legL (madeM c (mAt (legL c) k)))) x])) (fun x => slOk 3 (legL (madeM c (mAt (legL c) k))).length (msL (legL (madeM c (mAt (legL c) k)))) x) (fun x hx1 => (fun hzx => ?_) (slOk_z hx1)) (fun K hJ => ?_)) | ((with_reducible refine call_fr (legal_ok _ hq) [] ?_ ?_ ?_ ?_); (· kernel_rfl); (· exact trivial); (· rfl); intro xx hx; rcases xx with _ | ⟨tl9, cap9⟩ <;> first | simp only [fix_sl0, slH_none, rl_slice0] | simp only [fix_sl (con := msL (legL (madeM c (mAt (legL c) k)))) (pl_app (msL_pl _) hx.2.2.2), slH_some, rl_slS, List.length_cons, List.length_nil, Nat.zero_add, Nat.reduceAdd, List.cons_append, List.nil_append]) | (have hih := ih (madeM c (mAt (legL c) k)) (w' - 1) x hqd (by omega) (by omega) hx1; (with_reducible refine call_fr hih [7, 1] ?_ ?_ ?_ ?_); (· kernel_rfl); (· exact ⟨by rw [slB_R (msL_pl _) hx1]; rfl, by rw [plR (pl_int1 _)]; rfl, trivial⟩); (· cases x <;> simp [slH, sig, map_ints]; done); intro _ _; have htb := tallyF_bd (d + 1) (madeM c (mAt (legL c) k)) (w' - 1) (by omega); obtain ⟨tb0, tb1, tb2, tb3⟩ := htb; simp only [fixL_eq, List.map_cons, List.map_nil, slB_R (msL_pl _) hx1, plR (pl_int1 _), setAll_cons, setAll_nil, setAll_nil2, List.set_cons_succ, List.set_cons_zero, List.drop_succ_cons, List.drop_nil, List.drop_zero, List.append_nil, rl_res, List.length_cons, List.length_nil, Nat.zero_add, Nat.reduceAdd, List.cons_append, List.nil_append]) | ((with_reducible refine loop (c := Code.seq (Code.region 17 _ _) _) (V := [0, 1, 2, 3, 4, 8, 9, 10, 12, 13, 14, 15, 16, 17, 18, 19, 20, 21, 22, 23, 24, 27, 29, 30, 31, 32, 48, 56, 67, 69, 70, 83, 147, 148, 149, 152]) (fun j : Nat => ([(2, .int .i64 ((d + 2 : Nat) : Int)), (3, .pointer (some ⟨101, 0, none⟩)), (4, .pointer (some ⟨102, 0, none⟩)), (8, .pointer (some ⟨103, 0, none⟩)), (9, .bool false), (10, .pointer (some ⟨104, 0, none⟩)), (12, .pointer (some ⟨105, 0, none⟩)), (13, .pointer (some ⟨106, 0, none⟩)), (14, slH 107 (legL (madeM c (mAt (legL c) k))).length x), (29, .slice (some ⟨100, 0, none⟩) (legL c).length cap0), (30, .int .i64 (legL c).length), (31, .int .i64 k), (15, .pointer (some ⟨108, 0, none⟩)), (69, .int .i64 j)], [.cells (msL (legL c) ++ tl0) 38, .cells [.int .i64 (tallyF (d + 1) (madeM c (mAt (legL c) k)) (w' - 1)).2.2] 3, .cells (ints .i64 69 c) 24, .cells (ints .i64 8 zeroF) 28, .cells (ints .i64 8 (nAd n (tallyF (d + 1) (madeM c (mAt (legL c) k)) (w' - 1)).1 j)) 28, .cells (mB (mAt (legL c) k)) 38, .cells (ints .i64 69 (madeM c (mAt (legL c) k))) 24, slB 38 (msL (legL (madeM c (mAt (legL c) k)))) x, .cells (ints .i64 8 (tallyF (d + 1) (madeM c (mAt (legL c) k)) (w' - 1)).1) 28])) (fun j => j ≤ 8) (fun j => 8 - j) 0 (by kernel_rfl) (by omega) ?_ (fun j hj => ?_)); rotate_left; have hnb1 := hs5 j; have hnb2 := tb3 j) | (with_reducible refine hJ _ _ ?_; clear hJ) | with_reducible refine draw4 (id := 19) [.q, .q, .r, .q, .q, .r, .q, .q, .e []] [false, false, false, false, false, false, false, false, true] (by kernel_rfl) (by kernel_rfl) (by kernel_rfl) ?_ | with_reducible refine draw (by kernel_rfl) (by kernel_rfl) ?_ | with_reducible apply pz_e | with_reducible apply pz_eg | with_reducible apply py_e | with_reducible refine draw (by kernel_rfl) (by kernel_rfl) ?_ | with_reducible refine call_p (doubt_okM c hm hc) ?_ | with_reducible refine qG_call (doubt_okM c hm hc) ?_ | with_reducible refine zG_call (doubt_okM c hm hc) ?_ | with_reducible refine yG_call (doubt_okM c hm hc) ?_ | with_reducible refine piG_call (doubt_okM c hm hc) ?_ | with_reducible refine call_p (made_okM c hm hc.bd hc.turn hc.cast hc.half hc.full) ?_ | with_reducible refine qG_call (made_okM c hm hc.bd hc.turn hc.cast hc.half hc.full) ?_ | with_reducible refine zG_call (made_okM c hm hc.bd hc.turn hc.cast hc.half hc.full) ?_ | with_reducible refine yG_call (made_okM c hm hc.bd hc.turn hc.cast hc.half hc.full) ?_ | with_reducible refine piG_call (made_okM c hm hc.bd hc.turn hc.cast hc.half hc.full) ?_ | with_reducible refine seq_k fun K hK => ?_ | (with_reducible refine hK _ _ ?_; clear hK) | with_reducible refine gd_dec (fun hh => ?_) (fun hh => ?_) | with_reducible refine gd_ndec (fun hh => ?_) (fun hh => ?_) | with_reducible refine qC_dec (fun hh => ?_) (fun hh => ?_) | with_reducible refine qC_ndec (fun hh => ?_) (fun hh => ?_) | with_reducible refine piC_dec (fun hh => ?_) (fun hh => ?_) | with_reducible refine piC_ndec (fun hh => ?_) (fun hh => ?_) | with_reducible refine zC_dec (fun hh => ?_) (fun hh => ?_) | with_reducible refine zC_ndec (fun hh => ?_) (fun hh => ?_) | with_reducible refine zD_dec (fun hh => ?_) (fun hh => ?_) | with_reducible refine yC_dec (fun hh => ?_) (fun hh => ?_) | with_reducible refine yC_ndec (fun hh => ?_) (fun hh => ?_) | with_reducible refine if_dec (fun hh => ?_) (fun hh => ?_) | with_reducible refine if_ndec (fun hh => ?_) (fun hh => ?_) | simp -implicitDefEqProofs (disch := first | omega | assumption) only [go_sem, ↓reduceIte, Nat.reduceEqDiff, Int.reduceEq, Nat.reduceAdd, Nat.reduceSub, Nat.reduceMul, Nat.mul_one, Nat.one_mul, List.length_nil, List.length_cons, List.nil_append, List.cons_append, List.length_append, List.set_cons_zero, List.set_cons_succ, Nat.zero_add, Nat.sub_zero, Option.isNone_none, Option.isNone_some, Int.toNat_natCast, Nat.add_sub_cancel_left, Bool.not_true, Bool.not_false, BitVec.reduceOfInt, Int.reduceToNat, msL_sub, msL_g0, msL_g00, msL_g1, flI_m, ln_slH, zero8, sub_ints, wr_i8, wr_i8a, wr_m0, wr_1i, wr_ints, fl8_g, sub_mB, mB_0, mB_1, mB_2, pickV_T, pickV_F, onGd_T, onGd_F, pred2, nAd_at] | with_reducible refine gd_bool (fun hh => ?_) (fun hh => ?_) | with_reducible refine if_bool (fun hh => ?_) (fun hh => ?_) | with_reducible refine qC_bool (fun hh => ?_) (fun hh => ?_) | with_reducible refine piC_bool (fun hh => ?_) (fun hh => ?_) | with_reducible refine zC_bool (fun hh => ?_) (fun hh => ?_) | with_reducible refine zD_bool (fun hh => ?_) (fun hh => ?_) | with_reducible refine yC_bool (fun hh => ?_) (fun hh => ?_) | clear hK)
  all_goals first
    | (rw [tally_big (by omega)]
       exact ⟨(), trivial, VS.cutE (L := [slB 38 (msL (legL c)) h, .cells [.int .i64 w] 3]) (by simp) ⟨(slB_C (σ := fun i => i) (msL_pl _) hok).2, plW (pl_int1 _), trivial⟩ ⟨⟨rfl, wf_res⟩, trivial⟩⟩)
    | (have e := gMore_f (d := d) (c := c) (m := (mAt (legL c) k)) (w := w') (by first | (left; assumption) | (right; assumption))
       rw [tGood_no hs (by simp only; omega) (by rw [e]), e]
       exact ⟨(), trivial, VS.cutE (L := [.cells (msL (legL c) ++ tl0) 38, .cells [.int .i64 (w' - 1)] 3]) (by simp) ⟨plW (pl_app (msL_pl _) ht0), plW (pl_int1 _), trivial⟩ ⟨⟨rfl, wf_res⟩, trivial⟩⟩)
    | (rw [tGood_end hs (by simp only; omega)]
       exact ⟨(), trivial, VS.cutE (L := [slB 38 (msL (legL c)) h, .cells [.int .i64 w'] 3]) (by simp) ⟨(slB_C (σ := fun i => i) (msL_pl _) hok).2, plW (pl_int1 _), trivial⟩ ⟨⟨rfl, wf_res⟩, trivial⟩⟩)
    | (have e := gMore_t (d := d) (c := c) (m := (mAt (legL c) k)) (w := w') (by omega) (by assumption)
       have h9 : (!(tallyF (d + 1) (madeM c (mAt (legL c) k)) (w' - 1)).2.1) = true := by assumption
       rw [tGood_no hs (by simp only; omega) (by rw [e]; simpa using h9), e]
       exact ⟨(), trivial, VS.cutE (L := [.cells (msL (legL c) ++ tl0) 38, .cells [.int .i64 (tallyF (d + 1) (madeM c (mAt (legL c) k)) (w' - 1)).2.2] 3]) (by simp) ⟨plW (pl_app (msL_pl _) ht0), plW (pl_int1 _), trivial⟩ ⟨⟨rfl, wf_res⟩, trivial⟩⟩)
    | (refine ⟨j + 1, by omega, by omega, VS.sub2 ?_ (by rw [← nAd_S])⟩
       simp [Fr.sub, Fr.get]; done)
    | (obtain rfl : j = 8 := by omega
       have e := gMore_t (d := d) (c := c) (m := (mAt (legL c) k)) (w := w') (by omega) (by assumption)
       have h9 : (!(tallyF (d + 1) (madeM c (mAt (legL c) k)) (w' - 1)).2.1) = false := by assumption
       have hg := tGood_yes (gMore_bd d c) hs (by simp only; omega) (by rw [e]; simpa using h9)
       simp only [e] at hg
       rw [nAd_end]
       refine ⟨_, hg, by simp only; omega, VS.cutE (L := [.cells (msL (legL c) ++ tl0) 38, .cells [.int .i64 (tallyF (d + 1) (madeM c (mAt (legL c) k)) (w' - 1)).2.2] 3, .cells (ints .i64 69 c) 24, .cells (ints .i64 8 zeroF) 28, .cells (ints .i64 8 (fun i => n i + (tallyF (d + 1) (madeM c (mAt (legL c) k)) (w' - 1)).1 i)) 28]) (by simp) ⟨plW (pl_app (msL_pl _) ht0), plW (pl_int1 _), plW (ints_pl _ _ _), plW (ints_pl _ _ _), plW (ints_pl _ _ _), trivial⟩ ?_⟩
       simp [subW, Fr.get, slH_some, wf_int, wf_pt, wf_sl, wf_bool]; done)
    | (refine ⟨none, hx, VS.holex (L := [.cells (msL (legL c) ++ tl0) 38, .cells [.int .i64 (w' - 1)] 3, .cells (ints .i64 69 c) 24, .cells (ints .i64 8 zeroF) 28, .cells (ints .i64 8 n) 28, .cells (mB (mAt (legL c) k)) 38, .cells (ints .i64 69 (madeM c (mAt (legL c) k))) 24]) (by simp) ⟨plW (pl_app (msL_pl _) ht0), plW (pl_int1 _), plW (ints_pl _ _ _), plW (ints_pl _ _ _), plW (ints_pl _ _ _), plW (mB_pl _), plW (ints_pl _ _ _), trivial⟩ ?_⟩
       simp [subW, Fr.get, slH_none, wf_int, wf_pt, wf_nils, wf_sl, wf_bool]; done)
    | (refine ⟨some (tl9, cap9), hx, VS.sub2 ?_ rfl⟩
       simp [Fr.sub, Fr.get, slH_some]; done)
    | (refine VS.sub2 ?_ (by rw [nAd_0])
       simp [Fr.sub, Fr.get]; done)
theorem tally_ok : ∀ d : Nat, d ≤ 100 → TalC z (d + 1)
  | 0, _ => tally_ok1
  | d + 1, h => tally_okS (by omega) (tally_ok d (by omega))
end Go.Tb
end
section
namespace Go.Tb
open Go Go.Proofs
variable {z : Nat × Nat}
set_option maxRecDepth 20000
attribute [local irreducible] legL madeM tallyF zeroF in
set_option maxHeartbeats 8000000 in
theorem Tally_ok (d : Nat) (hd : d ≤ 100) (c : Nat → Int) (w : Int) (hpd : PosD (d + 1) c) (hw0 : 0 ≤ w) (hw1 : w ≤ 6000) :
    FnM (Tz z) 19 [posV c, .int .i64 ((d + 1 : Nat) : Int), .pointer (some ⟨100, 0, none⟩)] [.cells [.int .i64 w] 3] (fun _ : Unit => True)
    (fun _ => .tuple [.agg (ints .i64 8 (tallyF (d + 1) c w).1).toArray, .bool (tallyF (d + 1) c w).2.1].toArray) (fun _ => [.cells [.int .i64 (tallyF (d + 1) c w).2.2] 3]) := by
  have hc := hpd.ok
  refine ⟨?_, ?_, fun _ _ o ho => by simp at ho, CallM.shiftX (start [0, 1, 2, 3, 6, 7, 9] Tryz.func19 rfl (by decide) rfl (by kernel_rfl) (by simp [Tryz.f19]) ?_)⟩
  · intro u hu
    simp only [List.mem_cons, List.not_mem_nil, or_false] at hu
    rcases hu with rfl | rfl | rfl
    · exact (posV_pl c).wf _
    · exact wf_int
    · exact wf_pt (by simp)
  · intro o ho
    simp only [List.mem_cons, List.not_mem_nil, or_false] at ho
    subst ho; exact plW (pl_int1 w)
  simp only [Tryz.f19]
  unfold posV
  repeat' (first | (with_reducible refine seq_i (a := Code.seq (Code.region 1 _ _) _) [(1, .int .i64 ((d + 1 : Nat) : Int)), (2, .pointer (some ⟨100, 0, none⟩)), (3, .pointer (some ⟨101, 0, none⟩)), (6, .pointer (some ⟨102, 0, none⟩))] [.cells [.int .i64 w] 3, .cells (ints .i64 69 c) 24, .cells (ints .i64 8 zeroF) 28, .any] ?_ (fun K hJ => ?_)) | (with_reducible refine hJ _ _ ?_; clear hJ) | ((with_reducible refine piE_fr (legal_ok c hc) [] ?_ ?_ ?_ ?_); (· kernel_rfl); (· exact trivial); (· rfl); intro xx hx; rcases xx with _ | ⟨tl9, cap9⟩ <;> ((first | simp only [fix_sl0, slH_none, rl_slice0] | simp only [fix_sl (con := msL (legL c)) (pl_app (msL_pl _) hx.2.2.2), slH_some, rl_slS, List.length_cons, List.length_nil, Nat.zero_add, Nat.reduceAdd, List.cons_append, List.nil_append]); (with_reducible refine And.intro ?_ ?_); (· (simp -implicitDefEqProofs (disch := first | omega | assumption) only [chk_nil, chk_cons, pend_nil, pend_cons, obl_q, onQ_v, and_true, sub_ints, go_sem, ↓reduceIte, Nat.reduceEqDiff, Int.reduceEq, Nat.reduceAdd, Nat.reduceSub, List.length_nil, List.length_cons, List.nil_append, List.cons_append, Nat.zero_add, Nat.sub_zero]; done)))) | (have ht := tally_ok (z := z) d hd c w none hpd hw0 hw1 hx; (with_reducible refine piE_fr ht [3, 0] ?_ ?_ ?_ ?_); (· kernel_rfl); (· exact ⟨rfl, by rw [plR (pl_int1 _)]; rfl, trivial⟩); (· simp [slH, sig, map_ints]; done); intro _ _; simp only [fixL_eq, List.map_cons, List.map_nil, slB_R (msL_pl _) hx, plR (pl_int1 _), setAll_cons, setAll_nil, setAll_nil2, List.set_cons_succ, List.set_cons_zero, List.drop_succ_cons, List.drop_nil, List.drop_zero, List.append_nil, rl_res, slB_some, List.length_cons, List.length_nil, Nat.zero_add, Nat.reduceAdd, List.cons_append, List.nil_append]; (with_reducible refine And.intro ?_ ?_); (· (simp -implicitDefEqProofs (disch := first | omega | assumption) only [chk_nil, chk_cons, pend_nil, pend_cons, obl_q, onQ_v, and_true, sub_ints, go_sem, ↓reduceIte, Nat.reduceEqDiff, Int.reduceEq, Nat.reduceAdd, Nat.reduceSub, List.length_nil, List.length_cons, List.nil_append, List.cons_append, Nat.zero_add, Nat.sub_zero]; done))) | (have ht := tally_ok (z := z) d hd c w (some (tl9, cap9)) hpd hw0 hw1 hx; (with_reducible refine piE_fr ht [4, 0] ?_ ?_ ?_ ?_); (· kernel_rfl); (· exact ⟨by rw [slB_R (msL_pl _) hx]; rfl, by rw [plR (pl_int1 _)]; rfl, trivial⟩); (· simp [slH, sig, map_ints]; done); intro _ _; simp only [fixL_eq, List.map_cons, List.map_nil, slB_R (msL_pl _) hx, plR (pl_int1 _), setAll_cons, setAll_nil, setAll_nil2, List.set_cons_succ, List.set_cons_zero, List.drop_succ_cons, List.drop_nil, List.drop_zero, List.append_nil, rl_res, slB_some, List.length_cons, List.length_nil, Nat.zero_add, Nat.reduceAdd, List.cons_append, List.nil_append]; (with_reducible refine And.intro ?_ ?_); (· (simp -implicitDefEqProofs (disch := first | omega | assumption) only [chk_nil, chk_cons, pend_nil, pend_cons, obl_q, onQ_v, and_true, sub_ints, go_sem, ↓reduceIte, Nat.reduceEqDiff, Int.reduceEq, Nat.reduceAdd, Nat.reduceSub, List.length_nil, List.length_cons, List.nil_append, List.cons_append, Nat.zero_add, Nat.sub_zero]; done))) | with_reducible refine draw2 (id := 3) [(0, .r), (1, .r), (3, .q), (4, .q), (2, .e [0]), (5, .e []), (6, .q), (7, .q), (8, .e []), (9, .q)] (by kernel_rfl) (by kernel_rfl) ?_ | with_reducible refine draw (by kernel_rfl) (by kernel_rfl) ?_ | with_reducible apply pz_e | with_reducible apply pz_eg | with_reducible apply py_e | ((with_reducible apply pi_e); (· rfl); (· rfl)) | with_reducible refine seq_k fun K hK => ?_ | (with_reducible refine hK _ _ ?_; clear hK) | with_reducible refine gd_dec (fun hh => ?_) (fun hh => ?_) | with_reducible refine gd_ndec (fun hh => ?_) (fun hh => ?_) | with_reducible refine qC_dec (fun hh => ?_) (fun hh => ?_) | with_reducible refine qC_ndec (fun hh => ?_) (fun hh => ?_) | with_reducible refine piC_dec (fun hh => ?_) (fun hh => ?_) | with_reducible refine piC_ndec (fun hh => ?_) (fun hh => ?_) | with_reducible refine zC_dec (fun hh => ?_) (fun hh => ?_) | with_reducible refine zC_ndec (fun hh => ?_) (fun hh => ?_) | with_reducible refine zD_dec (fun hh => ?_) (fun hh => ?_) | with_reducible refine yC_dec (fun hh => ?_) (fun hh => ?_) | with_reducible refine yC_ndec (fun hh => ?_) (fun hh => ?_) | with_reducible refine if_dec (fun hh => ?_) (fun hh => ?_) | with_reducible refine if_ndec (fun hh => ?_) (fun hh => ?_) | simp -implicitDefEqProofs (disch := first | omega | assumption) only [go_sem, ↓reduceIte, Nat.reduceEqDiff, Int.reduceEq, Nat.reduceAdd, Nat.reduceSub, Nat.reduceMul, Nat.mul_one, Nat.one_mul, List.length_nil, List.length_cons, List.nil_append, List.cons_append, List.length_append, List.set_cons_zero, List.set_cons_succ, Nat.zero_add, Nat.sub_zero, Option.isNone_none, Option.isNone_some, Int.toNat_natCast, Nat.add_sub_cancel_left, Bool.not_true, Bool.not_false, BitVec.reduceOfInt, Int.reduceToNat, zero8, sub_ints, wr_i8] | with_reducible refine gd_bool (fun hh => ?_) (fun hh => ?_) | with_reducible refine if_bool (fun hh => ?_) (fun hh => ?_) | with_reducible refine qC_bool (fun hh => ?_) (fun hh => ?_) | with_reducible refine piC_bool (fun hh => ?_) (fun hh => ?_) | with_reducible refine zC_bool (fun hh => ?_) (fun hh => ?_) | with_reducible refine zD_bool (fun hh => ?_) (fun hh => ?_) | with_reducible refine yC_bool (fun hh => ?_) (fun hh => ?_) | clear hK)
  all_goals first
    | (refine VS.holex (L := [.cells [.int .i64 w] 3, .cells (ints .i64 69 c) 24, .cells (ints .i64 8 zeroF) 28]) (by simp) ⟨plW (pl_int1 _), plW (ints_pl _ _ _), plW (ints_pl _ _ _), trivial⟩ ?_
       simp [subW, Fr.get, wf_int, wf_pt]; done)
    | exact ⟨(), trivial, VS.cutE (L := [.cells [.int .i64 (tallyF (d + 1) c w).2.2] 3]) (by simp) ⟨plW (pl_int1 _), trivial⟩ ⟨⟨rfl, wf_res⟩, trivial⟩⟩
end Go.Tb
end
section
namespace Go.Tb
open Go Go.Proofs
variable {z : Nat × Nat}
set_option maxRecDepth 20000
structure RightC (c : Nat → Int) : Prop where
  v : ValidC c
  half : c 67 ≤ 1000
  full : c 68 ≤ 1000
theorem rightC_iff {c : Nat → Int} : RightC c ↔ ValidC c ∧ c 67 ≤ 1000 ∧ c 68 ≤ 1000 := ⟨fun h => ⟨h.v, h.half, h.full⟩, fun h => ⟨h.1, h.2.1, h.2.2⟩⟩
open Classical in
noncomputable def rightB' (c : Nat → Int) : Bool := decide (RightC c)
theorem rightB'_iff {c : Nat → Int} : rightB' c = true ↔ RightC c := by unfold rightB'; exact @decide_eq_true_iff _ (Classical.propDecidable _)
theorem valid_T {c : Nat → Int} (h : ValidC c) : FnP (Tz z) 35 [posV c] (.bool true) := by
  simpa [h] using valid_ok (z := z) c
theorem valid_F {c : Nat → Int} (h : ¬ ValidC c) : FnP (Tz z) 35 [posV c] (.bool false) := by
  simpa [h] using valid_ok (z := z) c
open Classical in
set_option maxHeartbeats 4000000 in
theorem enRight_ok (c : Nat → Int) : FnP (Tz z) 15 [posV c] (.bool (rightB' c)) := by
  have e : rightB' c = decide (ValidC c ∧ c 67 ≤ 1000 ∧ c 68 ≤ 1000) := by rw [Bool.eq_iff_iff, rightB'_iff, rightC_iff, decide_eq_true_eq]
  rw [e]
  by_cases hv : ValidC c <;> by_cases h1 : c 67 ≤ 1000 <;> by_cases h2 : c 68 ≤ 1000
  all_goals
    refine ⟨by simp [posV_pl], Pl.bool, start [0, 1, 2] Tryz.func15 rfl (by decide) rfl (by kernel_rfl) (by simp [Tryz.f15]) ?_⟩
    simp only [Tryz.f15]
    unfold posV
    repeat' (first | with_reducible refine call_p (valid_T (by assumption)) ?_ | with_reducible refine qG_call (valid_T (by assumption)) ?_ | with_reducible refine zG_call (valid_T (by assumption)) ?_ | with_reducible refine yG_call (valid_T (by assumption)) ?_ | with_reducible refine piG_call (valid_T (by assumption)) ?_ | with_reducible refine call_p (valid_F (by assumption)) ?_ | with_reducible refine qG_call (valid_F (by assumption)) ?_ | with_reducible refine zG_call (valid_F (by assumption)) ?_ | with_reducible refine yG_call (valid_F (by assumption)) ?_ | with_reducible refine piG_call (valid_F (by assumption)) ?_ | with_reducible refine seq_k fun K hK => ?_ | (with_reducible refine hK _ _ ?_; clear hK) | with_reducible refine gd_dec (fun hh => ?_) (fun hh => ?_) | with_reducible refine gd_ndec (fun hh => ?_) (fun hh => ?_) | with_reducible refine qC_dec (fun hh => ?_) (fun hh => ?_) | with_reducible refine qC_ndec (fun hh => ?_) (fun hh => ?_) | with_reducible refine piC_dec (fun hh => ?_) (fun hh => ?_) | with_reducible refine piC_ndec (fun hh => ?_) (fun hh => ?_) | with_reducible refine zC_dec (fun hh => ?_) (fun hh => ?_) | with_reducible refine zC_ndec (fun hh => ?_) (fun hh => ?_) | with_reducible refine zD_dec (fun hh => ?_) (fun hh => ?_) | with_reducible refine yC_dec (fun hh => ?_) (fun hh => ?_) | with_reducible refine yC_ndec (fun hh => ?_) (fun hh => ?_) | with_reducible refine if_dec (fun hh => ?_) (fun hh => ?_) | with_reducible refine if_ndec (fun hh => ?_) (fun hh => ?_) | simp -implicitDefEqProofs (disch := first | omega | assumption) only [go_sem, ↓reduceIte, Nat.reduceEqDiff, Int.reduceEq, Nat.reduceAdd, Nat.reduceSub, Nat.reduceMul, Nat.mul_one, Nat.one_mul, List.length_nil, List.length_cons, List.nil_append, List.cons_append, List.length_append, List.set_cons_zero, List.set_cons_succ, Nat.zero_add, Nat.sub_zero, Option.isNone_none, Option.isNone_some, Int.toNat_natCast, Nat.add_sub_cancel_left, Bool.not_true, Bool.not_false, BitVec.reduceOfInt, Int.reduceToNat, onGd_T, onGd_F, pickV_T, pickV_F, decT, decF] | with_reducible refine gd_bool (fun hh => ?_) (fun hh => ?_) | with_reducible refine if_bool (fun hh => ?_) (fun hh => ?_) | with_reducible refine qC_bool (fun hh => ?_) (fun hh => ?_) | with_reducible refine piC_bool (fun hh => ?_) (fun hh => ?_) | with_reducible refine zC_bool (fun hh => ?_) (fun hh => ?_) | with_reducible refine zD_bool (fun hh => ?_) (fun hh => ?_) | with_reducible refine yC_bool (fun hh => ?_) (fun hh => ?_) | clear hK)
    all_goals (simp [*]; done)
theorem right_T {c : Nat → Int} (h : RightC c) : FnP (Tz z) 15 [posV c] (.bool true) := by
  have := enRight_ok (z := z) c; rwa [rightB'_iff.2 h] at this
theorem right_F {c : Nat → Int} (h : ¬ RightC c) : FnP (Tz z) 15 [posV c] (.bool false) := by
  have := enRight_ok (z := z) c
  have e : rightB' c = false := by cases hb : rightB' c; rfl; exact absurd (rightB'_iff.1 hb) h
  rwa [e] at this
end Go.Tb
end
section
namespace Go.Tb
open Go Go.Proofs
variable {z : Nat × Nat}
set_option maxRecDepth 20000
theorem RightC.posOk {c : Nat → Int} (h : RightC c) : PosOk c := by
  have hb : Bd c := fun i hi => ⟨(h.v.cells i hi).1, (h.v.cells i hi).2.1⟩
  refine ⟨hb, fun k hk hp => ?_, h.v.turn, h.v.castle, ⟨h.v.half, by have := h.half; omega⟩, ⟨by have := h.v.full; omega, by have := h.full; omega⟩⟩
  have h1 := (h.v.cells k hk).2.2 hp (fun e => by rw [e] at hp; cases hp)
  omega
theorem RightC.posIn {c : Nat → Int} (h : RightC c) : PosIn c := by
  refine ⟨h.posOk.bd, h.v.turn, h.v.castle, ?_, h.v.half, by have := h.v.full; omega⟩
  have hp := h.v.pass
  unfold passB at hp
  split at hp
  · have := of_decide_eq_true hp; omega
  · omega
open Classical in
noncomputable def beginB (c : Nat → Int) : Bool := decide (RightC c ∧ (legL c).length ≤ 218)
open Classical in
theorem beginB_iff {c : Nat → Int} : beginB c = true ↔ RightC c ∧ (legL c).length ≤ 218 := by unfold beginB; exact decide_eq_true_iff
attribute [local irreducible] legL in
set_option maxHeartbeats 4000000 in
theorem begin_T {c : Nat → Int} (h : RightC c) (hl : (legL c).length ≤ 218) : FnP (Tz z) 7 [posV c] (.bool true) := by
  have hq := h.posOk
  refine ⟨by simp [posV_pl], Pl.bool, start [0, 1, 2] Tryz.func7 rfl (by decide) rfl (by kernel_rfl) (by simp [Tryz.f7]) ?_⟩
  simp only [Tryz.f7]
  unfold posV
  repeat' (first | with_reducible refine call_p (right_T (by assumption)) ?_ | with_reducible refine qG_call (right_T (by assumption)) ?_ | with_reducible refine zG_call (right_T (by assumption)) ?_ | with_reducible refine yG_call (right_T (by assumption)) ?_ | with_reducible refine piG_call (right_T (by assumption)) ?_ | ((with_reducible refine call_fr (legal_ok _ hq) [] ?_ ?_ ?_ ?_); (· kernel_rfl); (· exact trivial); (· rfl); intro xx hx; have hz := slOk_z hx; rcases xx with _ | ⟨tl9, cap9⟩ <;> first | simp only [fix_sl0, slH_none, rl_slice0] | simp only [fix_sl (con := msL (legL c)) (pl_app (msL_pl _) hx.2.2.2), slH_some, rl_slS, List.length_cons, List.length_nil, Nat.zero_add, Nat.reduceAdd, List.cons_append, List.nil_append]) | with_reducible refine seq_k fun K hK => ?_ | (with_reducible refine hK _ _ ?_; clear hK) | with_reducible refine gd_dec (fun hh => ?_) (fun hh => ?_) | with_reducible refine gd_ndec (fun hh => ?_) (fun hh => ?_) | with_reducible refine qC_dec (fun hh => ?_) (fun hh => ?_) | with_reducible refine qC_ndec (fun hh => ?_) (fun hh => ?_) | with_reducible refine piC_dec (fun hh => ?_) (fun hh => ?_) | with_reducible refine piC_ndec (fun hh => ?_) (fun hh => ?_) | with_reducible refine zC_dec (fun hh => ?_) (fun hh => ?_) | with_reducible refine zC_ndec (fun hh => ?_) (fun hh => ?_) | with_reducible refine zD_dec (fun hh => ?_) (fun hh => ?_) | with_reducible refine yC_dec (fun hh => ?_) (fun hh => ?_) | with_reducible refine yC_ndec (fun hh => ?_) (fun hh => ?_) | with_reducible refine if_dec (fun hh => ?_) (fun hh => ?_) | with_reducible refine if_ndec (fun hh => ?_) (fun hh => ?_) | simp -implicitDefEqProofs (disch := first | omega | assumption) only [go_sem, ↓reduceIte, Nat.reduceEqDiff, Int.reduceEq, Nat.reduceAdd, Nat.reduceSub, Nat.reduceMul, Nat.mul_one, Nat.one_mul, List.length_nil, List.length_cons, List.nil_append, List.cons_append, List.length_append, List.set_cons_zero, List.set_cons_succ, Nat.zero_add, Nat.sub_zero, Option.isNone_none, Option.isNone_some, Int.toNat_natCast, Nat.add_sub_cancel_left, Bool.not_true, Bool.not_false, BitVec.reduceOfInt, Int.reduceToNat, onGd_T, onGd_F, pickV_T, pickV_F, decT, decF] | with_reducible refine gd_bool (fun hh => ?_) (fun hh => ?_) | with_reducible refine if_bool (fun hh => ?_) (fun hh => ?_) | with_reducible refine qC_bool (fun hh => ?_) (fun hh => ?_) | with_reducible refine piC_bool (fun hh => ?_) (fun hh => ?_) | with_reducible refine zC_bool (fun hh => ?_) (fun hh => ?_) | with_reducible refine zD_bool (fun hh => ?_) (fun hh => ?_) | with_reducible refine yC_bool (fun hh => ?_) (fun hh => ?_) | clear hK)
  all_goals first
    | rfl
    | (refine congrArg Value.bool ?_; first | (exact decide_eq_true (by omega)) | rfl)
attribute [local irreducible] legL in
set_option maxHeartbeats 4000000 in
theorem begin_N {c : Nat → Int} (h : RightC c) (hl : ¬ (legL c).length ≤ 218) : FnP (Tz z) 7 [posV c] (.bool false) := by
  have hq := h.posOk
  refine ⟨by simp [posV_pl], Pl.bool, start [0, 1, 2] Tryz.func7 rfl (by decide) rfl (by kernel_rfl) (by simp [Tryz.f7]) ?_⟩
  simp only [Tryz.f7]
  unfold posV
  repeat' (first | with_reducible refine call_p (right_T (by assumption)) ?_ | with_reducible refine qG_call (right_T (by assumption)) ?_ | with_reducible refine zG_call (right_T (by assumption)) ?_ | with_reducible refine yG_call (right_T (by assumption)) ?_ | with_reducible refine piG_call (right_T (by assumption)) ?_ | ((with_reducible refine call_fr (legal_ok _ hq) [] ?_ ?_ ?_ ?_); (· kernel_rfl); (· exact trivial); (· rfl); intro xx hx; have hz := slOk_z hx; rcases xx with _ | ⟨tl9, cap9⟩ <;> first | (exfalso; have := hz rfl; omega) | simp only [fix_sl (con := msL (legL c)) (pl_app (msL_pl _) hx.2.2.2), slH_some, rl_slS, List.length_cons, List.length_nil, Nat.zero_add, Nat.reduceAdd, List.cons_append, List.nil_append]) | with_reducible refine seq_k fun K hK => ?_ | (with_reducible refine hK _ _ ?_; clear hK) | with_reducible refine gd_dec (fun hh => ?_) (fun hh => ?_) | with_reducible refine gd_ndec (fun hh => ?_) (fun hh => ?_) | with_reducible refine qC_dec (fun hh => ?_) (fun hh => ?_) | with_reducible refine qC_ndec (fun hh => ?_) (fun hh => ?_) | with_reducible refine piC_dec (fun hh => ?_) (fun hh => ?_) | with_reducible refine piC_ndec (fun hh => ?_) (fun hh => ?_) | with_reducible refine zC_dec (fun hh => ?_) (fun hh => ?_) | with_reducible refine zC_ndec (fun hh => ?_) (fun hh => ?_) | with_reducible refine zD_dec (fun hh => ?_) (fun hh => ?_) | with_reducible refine yC_dec (fun hh => ?_) (fun hh => ?_) | with_reducible refine yC_ndec (fun hh => ?_) (fun hh => ?_) | with_reducible refine if_dec (fun hh => ?_) (fun hh => ?_) | with_reducible refine if_ndec (fun hh => ?_) (fun hh => ?_) | simp -implicitDefEqProofs (disch := first | omega | assumption) only [go_sem, ↓reduceIte, Nat.reduceEqDiff, Int.reduceEq, Nat.reduceAdd, Nat.reduceSub, Nat.reduceMul, Nat.mul_one, Nat.one_mul, List.length_nil, List.length_cons, List.nil_append, List.cons_append, List.length_append, List.set_cons_zero, List.set_cons_succ, Nat.zero_add, Nat.sub_zero, Option.isNone_none, Option.isNone_some, Int.toNat_natCast, Nat.add_sub_cancel_left, Bool.not_true, Bool.not_false, BitVec.reduceOfInt, Int.reduceToNat, onGd_T, onGd_F, pickV_T, pickV_F, decT, decF] | with_reducible refine gd_bool (fun hh => ?_) (fun hh => ?_) | with_reducible refine if_bool (fun hh => ?_) (fun hh => ?_) | with_reducible refine qC_bool (fun hh => ?_) (fun hh => ?_) | with_reducible refine piC_bool (fun hh => ?_) (fun hh => ?_) | with_reducible refine zC_bool (fun hh => ?_) (fun hh => ?_) | with_reducible refine zD_bool (fun hh => ?_) (fun hh => ?_) | with_reducible refine yC_bool (fun hh => ?_) (fun hh => ?_) | clear hK)
  all_goals first
    | rfl
    | (refine congrArg Value.bool ?_; exact decide_eq_false (by omega))
set_option maxHeartbeats 4000000 in
theorem begin_F {c : Nat → Int} (h : ¬ RightC c) : FnP (Tz z) 7 [posV c] (.bool false) := by
  refine ⟨by simp [posV_pl], Pl.bool, start [0, 1, 2] Tryz.func7 rfl (by decide) rfl (by kernel_rfl) (by simp [Tryz.f7]) ?_⟩
  simp only [Tryz.f7]
  unfold posV
  repeat' (first | with_reducible refine call_p (right_F (by assumption)) ?_ | with_reducible refine qG_call (right_F (by assumption)) ?_ | with_reducible refine zG_call (right_F (by assumption)) ?_ | with_reducible refine yG_call (right_F (by assumption)) ?_ | with_reducible refine piG_call (right_F (by assumption)) ?_ | with_reducible refine seq_k fun K hK => ?_ | (with_reducible refine hK _ _ ?_; clear hK) | with_reducible refine gd_dec (fun hh => ?_) (fun hh => ?_) | with_reducible refine gd_ndec (fun hh => ?_) (fun hh => ?_) | with_reducible refine qC_dec (fun hh => ?_) (fun hh => ?_) | with_reducible refine qC_ndec (fun hh => ?_) (fun hh => ?_) | with_reducible refine piC_dec (fun hh => ?_) (fun hh => ?_) | with_reducible refine piC_ndec (fun hh => ?_) (fun hh => ?_) | with_reducible refine zC_dec (fun hh => ?_) (fun hh => ?_) | with_reducible refine zC_ndec (fun hh => ?_) (fun hh => ?_) | with_reducible refine zD_dec (fun hh => ?_) (fun hh => ?_) | with_reducible refine yC_dec (fun hh => ?_) (fun hh => ?_) | with_reducible refine yC_ndec (fun hh => ?_) (fun hh => ?_) | with_reducible refine if_dec (fun hh => ?_) (fun hh => ?_) | with_reducible refine if_ndec (fun hh => ?_) (fun hh => ?_) | simp -implicitDefEqProofs (disch := first | omega | assumption) only [go_sem, ↓reduceIte, Nat.reduceEqDiff, Int.reduceEq, Nat.reduceAdd, Nat.reduceSub, Nat.reduceMul, Nat.mul_one, Nat.one_mul, List.length_nil, List.length_cons, List.nil_append, List.cons_append, List.length_append, List.set_cons_zero, List.set_cons_succ, Nat.zero_add, Nat.sub_zero, Option.isNone_none, Option.isNone_some, Int.toNat_natCast, Nat.add_sub_cancel_left, Bool.not_true, Bool.not_false, BitVec.reduceOfInt, Int.reduceToNat, onGd_T, onGd_F, pickV_T, pickV_F, decT, decF] | with_reducible refine gd_bool (fun hh => ?_) (fun hh => ?_) | with_reducible refine if_bool (fun hh => ?_) (fun hh => ?_) | with_reducible refine qC_bool (fun hh => ?_) (fun hh => ?_) | with_reducible refine piC_bool (fun hh => ?_) (fun hh => ?_) | with_reducible refine zC_bool (fun hh => ?_) (fun hh => ?_) | with_reducible refine zD_bool (fun hh => ?_) (fun hh => ?_) | with_reducible refine yC_bool (fun hh => ?_) (fun hh => ?_) | clear hK)
theorem enBegin_ok (c : Nat → Int) : FnP (Tz z) 7 [posV c] (.bool (beginB c)) := by
  by_cases h : RightC c
  · by_cases hl : (legL c).length ≤ 218
    · rw [beginB_iff.2 ⟨h, hl⟩]; exact begin_T h hl
    · rw [show beginB c = false from by cases hb : beginB c; rfl; exact absurd (beginB_iff.1 hb).2 hl]; exact begin_N h hl
  · rw [show beginB c = false from by cases hb : beginB c; rfl; exact absurd (beginB_iff.1 hb).1 h]; exact begin_F h
end Go.Tb
end
