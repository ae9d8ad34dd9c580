/-
  A part of the proof (my own): of the texts that the claim's last text rests on: parts V1, V2, V3, V4, P21.
-/
import Derived.Test.YtigjokkakcmmdaaGreatDoorT21
import Derived.Test.YtigjokkakcmmdaaGreatDoorT22
import Derived.Test.YtigjokkakcmmdaaGreatDoorT28
import Derived.Test.YtigjokkakcmmdaaGreatDoorT26
set_option linter.unusedSimpArgs false
set_option linter.unusedVariables false
section
namespace Go.Tb
open Go Go.Proofs
set_option maxRecDepth 20000
def fl (s : Nat) : Nat := 8 * (7 - s / 8) + s % 8
theorem fl_lt {s : Nat} (h : s < 64) : fl s < 64 := by unfold fl; omega
theorem fl_fl {s : Nat} (h : s < 64) : fl (fl s) = s := by unfold fl; omega
theorem fl_inj {s t : Nat} (h : s < 64) (h' : t < 64) : fl s = fl t ↔ s = t := by unfold fl; omega
theorem fl_rk {s : Nat} (h : s < 64) : ((fl s : Nat) : Int) / 8 = 7 - (s : Int) / 8 := by unfold fl; omega
theorem fl_fi {s : Nat} (h : s < 64) : ((fl s : Nat) : Int) % 8 = (s : Int) % 8 := by unfold fl; omega
def sw (n : Int) : Int := if n > 6 then n - 6 else if n > 0 then n + 6 else n
section
variable {n b : Int}
theorem sw_0 (h : 0 ≤ n ∧ n ≤ 12) : sw n = 0 ↔ n = 0 := by unfold sw; split <;> (try split) <;> omega
theorem sw_sw (h : 0 ≤ n ∧ n ≤ 12) : sw (sw n) = n := by unfold sw; split <;> (try split) <;> (try split) <;> omega
theorem sw_bd (h : 0 ≤ n ∧ n ≤ 12) : 0 ≤ sw n ∧ sw n ≤ 12 := by unfold sw; split <;> (try split) <;> omega
theorem sw_kind (h : 0 ≤ n ∧ n ≤ 12) : kindOf (sw n) = kindOf n := by unfold sw kindOf; split <;> (try split) <;> (try split) <;> omega
theorem sw_side (h : 0 ≤ n ∧ n ≤ 12) (h0 : n ≠ 0) : sideOf (sw n) = 1 - sideOf n := by unfold sw sideOf; split <;> (try split) <;> (try split) <;> omega
theorem sw_king (h : 0 ≤ n ∧ n ≤ 12) (hb : b = 0 ∨ b = 1) (k : Int) (hk : 1 ≤ k ∧ k ≤ 6) : sw n = k + 6 * (1 - b) ↔ n = k + 6 * b := by unfold sw; split <;> (try split) <;> omega
end
structure Mir (c c' : Nat → Int) : Prop where
  bd : Bd c
  t01 : 0 ≤ c 64 ∧ c 64 ≤ 1
  sq : ∀ s : Nat, s < 64 → c' (fl s) = sw (c s)
  turn : c' 64 = 1 - c 64
  cb : (0 ≤ c 65 ∧ c 65 ≤ 15) ∧ (0 ≤ c' 65 ∧ c' 65 ≤ 15)
  cast : ∀ r : Nat, r < 4 → (bitI (c' 65) ((r + 2) % 4) = 1 ↔ bitI (c 65) r = 1)
  ep : (c 66 = -1 ∧ c' 66 = -1) ∨ (0 ≤ c 66 ∧ c 66 ≤ 63 ∧ c' 66 = fl (c 66).toNat)
section
variable {c c' : Nat → Int} {f t s k : Nat}
theorem Mir.bd' (h : Mir c c') : Bd c' := fun i hi => by
  have := h.sq (fl i) (fl_lt hi)
  rw [fl_fl hi] at this
  rw [this]; exact sw_bd (h.bd _ (fl_lt hi))
theorem Mir.symm (h : Mir c c') : Mir c' c where
  bd := h.bd'
  t01 := by have := h.t01; have := h.turn; omega
  sq s hs := by
    have := h.sq (fl s) (fl_lt hs)
    rw [fl_fl hs] at this
    rw [this, sw_sw (h.bd _ (fl_lt hs))]
  turn := by have := h.turn; omega
  cb := ⟨h.cb.2, h.cb.1⟩
  cast r hr := by
    have := h.cast ((r + 2) % 4) (by omega)
    rw [show ((r + 2) % 4 + 2) % 4 = r by omega] at this
    exact this.symm
  ep := by
    rcases h.ep with ⟨a, b⟩ | ⟨a, b, d⟩
    · exact .inl ⟨b, a⟩
    · refine .inr ⟨by omega, ?_, ?_⟩
      · have := fl_lt (s := (c 66).toNat) (by omega); omega
      · rw [d, Int.toNat_natCast, fl_fl (by omega)]; omega
theorem Mir.z (h : Mir c c') (hs : s < 64) : c' (fl s) = 0 ↔ c s = 0 := by rw [h.sq s hs]; exact sw_0 (h.bd s hs)
theorem Mir.kind (h : Mir c c') (hs : s < 64) : kindOf (c' (fl s)) = kindOf (c s) := by rw [h.sq s hs]; exact sw_kind (h.bd s hs)
theorem Mir.side (h : Mir c c') (hs : s < 64) (h0 : c s ≠ 0) : sideOf (c' (fl s)) = 1 - sideOf (c s) := by rw [h.sq s hs]; exact sw_side (h.bd s hs) h0
theorem fl_fdif (hf : f < 64) (ht : t < 64) : fdif (fl f : Nat) (fl t : Nat) = fdif f t := by
  unfold fdif; rw [fl_fi hf, fl_fi ht]
theorem fl_rdif (hf : f < 64) (ht : t < 64) : rdif (fl f : Nat) (fl t : Nat) = - rdif f t := by
  unfold rdif; rw [fl_rk hf, fl_rk ht]; omega
theorem fl_dist (hf : f < 64) (ht : t < 64) : distOf (fl f : Nat) (fl t : Nat) = distOf f t := by
  unfold distOf; rw [fl_fdif hf ht, fl_rdif hf ht, Int.natAbs_neg]
def mirOk (i j k : Nat) : Bool := decide (onRay i j) && decide (i ≠ j) && decide (k ≤ distOf i j) && !(decide (((fl i : Nat) : Int) + k * wayOf (fl i : Nat) (fl j : Nat) = ((fl ((i : Int) + k * wayOf i j).toNat : Nat) : Int)))
theorem mir_all : ((List.range 64).all fun i => (List.range 64).all fun j => (List.range 8).all fun k => !mirOk i j k) = true := by kernel_rfl
theorem mir_way (hf : f < 64) (ht : t < 64) (hr : onRay f t) (hn : f ≠ t) (hk : k ≤ distOf f t) : ((fl f : Nat) : Int) + k * wayOf (fl f : Nat) (fl t : Nat) = ((fl ((f : Int) + k * wayOf f t).toNat : Nat) : Int) := by
  have hd : distOf f t ≤ 7 := by unfold distOf fdif rdif; omega
  have h := List.all_eq_true.1 (List.all_eq_true.1 (List.all_eq_true.1 mir_all f (by simp; omega)) t (by simp; omega)) k (by simp; omega)
  unfold mirOk at h
  rw [decide_eq_true hr, decide_eq_true hn, decide_eq_true hk] at h
  simpa using h
theorem Mir.clear (h : Mir c c') (hf : f < 64) (ht : t < 64) (hr : onRay f t) (hn : f ≠ t) (hc : clearP c f t (distOf f t)) : clearP c' (fl f : Nat) (fl t : Nat) (distOf (fl f : Nat) (fl t : Nat)) := by
  intro k h1 h2
  rw [fl_dist hf ht] at h2
  rw [mir_way hf ht hr hn (Nat.le_of_lt h2), Int.toNat_natCast]
  have hb := ray (i := f) (j := t) (by omega) (by omega) hr (by omega) k (Nat.le_of_lt h2)
  exact (h.z (by omega)).2 (hc k h1 h2)
theorem str_ray {i j : Int} (h : strP c i j ∨ slaP c i j) : onRay i j := by
  unfold onRay
  rcases h with ⟨h, _⟩ | ⟨h, _⟩ <;> omega
theorem Mir.str (h : Mir c c') (hf : f < 64) (ht : t < 64) (hs : strP c f t ∨ slaP c f t) : strP c' (fl f : Nat) (fl t : Nat) ∨ slaP c' (fl f : Nat) (fl t : Nat) := by
  unfold strP slaP at *
  rw [fl_fdif hf ht, fl_rdif hf ht, Int.toNat_natCast, h.kind hf]
  rw [Int.toNat_natCast] at hs
  rcases hs with ⟨a, b⟩ | ⟨a, b⟩
  · exact .inl ⟨by omega, b⟩
  · exact .inr ⟨by omega, b⟩
theorem Mir.hits1 (h : Mir c c') (hf : f < 64) (ht : t < 64) (hh : hitsP c f t) : hitsP c' (fl f : Nat) (fl t : Nat) := by
  unfold hitsP at *
  rw [Int.toNat_natCast] at *
  obtain ⟨h1, h2, h3⟩ := hh
  have hn : f ≠ t := by omega
  refine ⟨by have := fl_inj hf ht; omega, fun e => h2 ((h.z hf).1 e), ?_⟩
  rw [h.kind hf, fl_fdif hf ht, fl_rdif hf ht]
  by_cases k1 : kindOf (c f) = 1
  · rw [if_pos k1] at h3 ⊢; rw [Int.neg_mul_neg]; exact h3
  · rw [if_neg k1] at h3 ⊢
    by_cases k5 : kindOf (c f) = 5
    · rw [if_pos k5] at h3 ⊢; rw [Int.neg_mul_neg]; exact h3
    · rw [if_neg k5] at h3 ⊢
      by_cases k6 : kindOf (c f) = 6
      · rw [if_pos k6] at h3 ⊢
        refine ⟨h3.1, ?_⟩
        rw [h.side hf h2, h3.2]; unfold upOf; omega
      · rw [if_neg k6] at h3 ⊢
        exact ⟨h.str hf ht h3.1, h.clear hf ht (str_ray h3.1) hn h3.2⟩
theorem Mir.att1 (h : Mir c c') {b : Int} (hs : s < 64) (ha : attB c s b = true) : attB c' (fl s : Nat) (1 - b) = true := by
  obtain ⟨i, h1, h2, h3, h4⟩ := attB_iff.1 ha
  exact attB_iff.2 ⟨fl i, fl_lt h1, fun e => h2 ((h.z h1).1 e), by rw [h.side h1 h2, h3], h.hits1 h1 hs h4⟩
theorem Mir.att (h : Mir c c') {b : Int} (hs : s < 64) : attB c' (fl s : Nat) (1 - b) = attB c s b := by
  rw [Bool.eq_iff_iff]
  refine ⟨fun ha => ?_, h.att1 hs⟩
  have := h.symm.att1 (fl_lt hs) ha
  rwa [fl_fl hs, show 1 - (1 - b) = b by omega] at this
theorem Mir.king (h : Mir c c') {b : Int} (hb : b = 0 ∨ b = 1) (hk : KingAt c b k) : KingAt c' (1 - b) (fl k) := by
  obtain ⟨h1, h2, h3⟩ := hk
  refine ⟨fl_lt h1, by rw [h.sq k h1]; exact (sw_king (h.bd k h1) hb 1 (by decide)).2 h2, fun i hi e => ?_⟩
  have h4 := h.symm.sq i hi
  have h5 := h.sq (fl i) (fl_lt hi)
  rw [fl_fl hi] at h5
  rw [h5] at e
  have := h3 (fl i) (fl_lt hi) ((sw_king (h.bd _ (fl_lt hi)) hb 1 (by decide)).1 e)
  rw [← this, fl_fl hi]
theorem Mir.chk (h : Mir c c') {b : Int} (hb : b = 0 ∨ b = 1) (hk : ∃ k, KingAt c b k) : chkB c' (1 - b) = chkB c b := by
  obtain ⟨k, hk⟩ := hk
  have hk' := h.king hb hk
  unfold chkB
  rw [hk.eq, hk'.eq, decide_eq_true (by omega), decide_eq_true (by omega), h.att hk.1]
end
end Go.Tb
end
section
namespace Go.Tb
open Go Go.Proofs
set_option maxRecDepth 20000
def mirM (m : M3) : M3 := (((fl m.1.toNat : Nat) : Int), ((fl m.2.1.toNat : Nat) : Int), m.2.2)
theorem mirM_nat (f t : Nat) (p : Int) : mirM ((f : Int), (t : Int), p) = (((fl f : Nat) : Int), ((fl t : Nat) : Int), p) := by
  unfold mirM; simp only [Int.toNat_natCast]
section
variable {c c' : Nat → Int} {f t s k r : Nat} {m : M3}
theorem Mir.own (h : Mir c c') (hs : s < 64) : ownS c' (fl s) ↔ ownS c s := by
  unfold ownS
  rw [h.turn]
  by_cases h0 : c s = 0
  · have := (h.z hs).2 h0
    simp [this, h0]
  · have h1 : c' (fl s) ≠ 0 := fun e => h0 ((h.z hs).1 e)
    rw [h.side hs h0]
    constructor
    · rintro ⟨_, e⟩; exact ⟨h0, by omega⟩
    · rintro ⟨_, e⟩; exact ⟨h1, by omega⟩
theorem Mir.reach1 (h : Mir c c') (hf : f < 64) (ht : t < 64) (hr : reachP c f t) : reachP c' (fl f) (fl t) := by
  unfold reachP at *
  obtain ⟨hn, h3⟩ := hr
  refine ⟨by have := fl_inj hf ht; omega, ?_⟩
  rw [h.kind hf, fl_fdif hf ht, fl_rdif hf ht]
  by_cases k1 : kindOf (c f) = 1
  · rw [if_pos k1] at h3 ⊢; rw [Int.neg_mul_neg]; exact h3
  · rw [if_neg k1] at h3 ⊢
    by_cases k5 : kindOf (c f) = 5
    · rw [if_pos k5] at h3 ⊢; rw [Int.neg_mul_neg]; exact h3
    · rw [if_neg k5] at h3 ⊢
      by_cases k2 : kindOf (c f) = 2
      · rw [if_pos k2] at h3 ⊢
        exact ⟨by omega, h.clear hf ht (by unfold onRay; omega) hn h3.2⟩
      · rw [if_neg k2] at h3 ⊢
        by_cases k3 : kindOf (c f) = 3
        · rw [if_pos k3] at h3 ⊢
          exact ⟨by omega, h.clear hf ht (by unfold onRay; omega) hn h3.2⟩
        · rw [if_neg k3] at h3 ⊢
          by_cases k4 : kindOf (c f) = 4
          · rw [if_pos k4] at h3 ⊢
            exact ⟨by omega, h.clear hf ht (by unfold onRay; omega) hn h3.2⟩
          · rw [if_neg k4] at h3; exact h3.elim
theorem up_01 (h : 0 ≤ c 64 ∧ c 64 ≤ 1) : (c 64 = 0 ∧ upOf (c 64) = 1) ∨ (c 64 = 1 ∧ upOf (c 64) = -1) := by unfold upOf; omega
theorem Mir.up (h : Mir c c') : upOf (c' 64) = - upOf (c 64) := by rw [h.turn]; unfold upOf; omega
theorem Mir.pawn1 (h : Mir c c') (hf : f < 64) (ht : t < 64) (hp : pawnP c f t) : pawnP c' (fl f) (fl t) := by
  have hu := up_01 h.t01
  have hup := h.up
  have htn := h.turn
  unfold pawnP at *
  rcases hp with ⟨a, b⟩ | ⟨a, b, d, e⟩ | ⟨a, b, d⟩
  · exact .inl ⟨by unfold fl; omega, (h.z ht).2 b⟩
  · refine .inr (.inl ⟨by unfold fl; omega, by rw [fl_rk hf]; omega, ?_, (h.z ht).2 e⟩)
    have hm : ((f : Int) + 8 * upOf (c 64)).toNat < 64 := by omega
    have := (h.z hm).2 d
    rw [show (((fl f : Nat) : Int) + 8 * upOf (c' 64)).toNat = fl ((f : Int) + 8 * upOf (c 64)).toNat by unfold fl; omega]
    exact this
  · refine .inr (.inr ⟨by rw [fl_fdif hf ht]; exact a, by rw [fl_rdif hf ht, b, hup], ?_⟩)
    rcases d with ⟨d1, d2⟩ | ⟨d1, d2⟩
    · exact .inl ⟨fun e => d1 ((h.z ht).1 e), by rw [h.side ht d1]; omega⟩
    · refine .inr ⟨(h.z ht).2 d1, ?_⟩
      rcases h.ep with ⟨e1, e2⟩ | ⟨e1, e2, e3⟩
      · omega
      · rw [e3, ← d2, Int.toNat_natCast]
theorem Mir.tgt1 (h : Mir c c') (hf : f < 64) (ht : t < 64) (hp : tgtP c f t) : tgtP c' (fl f) (fl t) := by
  unfold tgtP at *
  rw [h.kind hf]
  by_cases k6 : kindOf (c f) = 6
  · rw [if_pos k6] at hp ⊢; exact h.pawn1 hf ht hp
  · rw [if_neg k6] at hp ⊢; exact h.reach1 hf ht hp
theorem Mir.promOk1 (h : Mir c c') (hf : f < 64) (ht : t < 64) {p : Int} (hp : promOk c f t p) : promOk c' (fl f) (fl t) p := by
  have htn := h.turn
  have e : ((t : Int) / 8 = 7 - 7 * c 64) ↔ (((fl t : Nat) : Int) / 8 = 7 - 7 * c' 64) := by rw [fl_rk ht]; omega
  unfold promOk at *
  rw [h.kind hf]
  by_cases hc : kindOf (c f) = 6 ∧ (t : Int) / 8 = 7 - 7 * c 64
  · rw [if_pos hc] at hp; rw [if_pos ⟨hc.1, e.1 hc.2⟩]; exact hp
  · rw [if_neg hc] at hp; rw [if_neg fun x => hc ⟨x.1, e.2 x.2⟩]; exact hp
theorem Mir.nrm1 (h : Mir c c') (hm : NrmM c m) : NrmM c' (mirM m) := by
  obtain ⟨f, t, hf, ht, ho, hg, hn, e1, e2, hp⟩ := hm
  refine ⟨fl f, fl t, fl_lt hf, fl_lt ht, (h.own hf).2 ho, h.tgt1 hf ht hg, fun x => hn ((h.own ht).1 x), ?_, ?_, h.promOk1 hf ht hp⟩
  · unfold mirM; simp only; rw [e1, Int.toNat_natCast]
  · unfold mirM; simp only; rw [e2, Int.toNat_natCast]
end
end Go.Tb
end
section
namespace Go.Tb
open Go Go.Proofs
set_option maxRecDepth 20000
section
variable {c c' : Nat → Int} {f t s k r : Nat} {m : M3}
theorem cas_fl (hr : r < 4) : casF ((r + 2) % 4) = fl (casF r) ∧ casT ((r + 2) % 4) = fl (casT r) ∧ casR ((r + 2) % 4) = fl (casR r) ∧ casM ((r + 2) % 4) = fl (casM r) := by
  have hr4 : r = 0 ∨ r = 1 ∨ r = 2 ∨ r = 3 := by omega
  rcases hr4 with rfl | rfl | rfl | rfl <;> decide
theorem casB_fl (hr : r < 4) {j : Nat} (h : casB ((r + 2) % 4) j) : j < 64 ∧ casB r (fl j) := by
  have hr4 : r = 0 ∨ r = 1 ∨ r = 2 ∨ r = 3 := by omega
  rcases hr4 with rfl | rfl | rfl | rfl <;> simp only [casB] at h ⊢ <;> simp at h ⊢ <;> unfold fl <;> omega
theorem Mir.cas1 (h : Mir c c') (hr : r < 4) (hc : CasOk c r) : CasOk c' ((r + 2) % 4) := by
  obtain ⟨e1, e2, e3, e4⟩ := cas_fl hr
  obtain ⟨g1, g2, g3, g4, _⟩ := cas_facts hr
  have htn := h.turn
  have hsd := hc.side
  have hb : (1 : Int) - c' 64 = 1 - (1 - c 64) := by omega
  refine ⟨by omega, (h.cast r hr).2 hc.bit, fun j hj => ?_, ?_, ?_, ?_⟩
  · obtain ⟨j1, j2⟩ := casB_fl hr hj
    have := (h.z (fl_lt j1)).2 (hc.free _ j2)
    rwa [fl_fl j1] at this
  · rw [e1, hb, h.att g1]; exact hc.k0
  · rw [e4, hb, h.att g4]; exact hc.k1
  · rw [e2, hb, h.att g2]; exact hc.k2
theorem leg_iff (hi : InvC c) : m ∈ legL c ↔ (NrmM c m ∧ legB c m = true) ∨ ∃ r : Nat, r < 4 ∧ CasOk c r ∧ m = ((casF r : Int), (casT r : Int), 0) := by
  have hs := rep_init hi
  rw [← (all_perm hs hi).mem_iff]
  unfold allS allL
  rw [List.map_append, List.mem_append, std_iff hs.d hi]
  refine or_congr_right ?_
  rw [List.mem_map]
  constructor
  · rintro ⟨M, hM, rfl⟩
    obtain ⟨r, hr, hk, rfl⟩ := (cs_mem 4).1 hM
    exact ⟨r, hr, (kC_iff hs hi hr).1 hk, kM_to _ _ hr⟩
  · rintro ⟨r, hr, hk, rfl⟩
    exact ⟨_, (cs_mem 4).2 ⟨r, hr, (kC_iff hs hi hr).2 hk, rfl⟩, kM_to _ _ hr⟩
theorem cs_nd {l : List UInt8} {D : Pd} {B : Brd} : ∀ n : Nat, n ≤ 4 → ((csL l D B n).map toM).Nodup
  | 0, _ => by simp [csL]
  | n + 1, h => by
    simp only [csL, List.map_append]
    split
    · refine List.nodup_append.2 ⟨cs_nd n (by omega), by simp, fun a ha b hb e => ?_⟩
      obtain ⟨M, hM, rfl⟩ := List.mem_map.1 ha
      obtain ⟨r, hr, _, rfl⟩ := (cs_mem n).1 hM
      simp only [List.map_cons, List.map_nil, List.mem_singleton] at hb
      subst hb
      rw [kM_to _ _ (by omega : r < 4), kM_to _ _ (by omega : n < 4)] at e
      have e2 : (casT r : Int) = casT n := congrArg (·.2.1) e
      have : ∀ a b : Fin 4, casT a.val = casT b.val → a.val = b.val := by decide
      have := this ⟨r, by omega⟩ ⟨n, by omega⟩ (by simp only; omega)
      simp only at this; omega
    · simp only [List.map_nil, List.append_nil]; exact cs_nd n (by omega)
theorem cas_not_nrm (hi : InvC c) (hr : r < 4) (hc : CasOk c r) : ¬ NrmM c ((casF r : Int), (casT r : Int), 0) := by
  rintro ⟨f, t, hf, ht, ho, hg, hn, e1, e2, hp⟩
  have hmv := hc.mv hi hr
  have ef : f = casF r := by simp only at e1; omega
  have et : t = casT r := by simp only at e2; omega
  subst ef; subst et
  have hk : kindOf (c (casF r)) = 1 := by rw [hmv.king]; exact kind_king (by have := hi.turn; omega)
  unfold tgtP at hg
  rw [if_neg (by omega)] at hg
  unfold reachP at hg
  rw [if_pos hk] at hg
  have hr4 : r = 0 ∨ r = 1 ∨ r = 2 ∨ r = 3 := by omega
  rcases hr4 with rfl | rfl | rfl | rfl <;> exact absurd hg.2.1 (by decide)
theorem leg_nd (hi : InvC c) : (legL c).Nodup := by
  have hs := rep_init hi
  refine (all_perm hs hi).nodup_iff.1 ?_
  unfold allS allL
  rw [List.map_append]
  refine List.nodup_append.2 ⟨std_nd hs.d.b, cs_nd 4 (Nat.le_refl _), fun a ha b hb e => ?_⟩
  subst e
  have h1 := (std_iff hs.d hi).1 ha
  obtain ⟨M, hM, rfl⟩ := List.mem_map.1 hb
  obtain ⟨r, hr, hk, rfl⟩ := (cs_mem 4).1 hM
  rw [kM_to _ _ hr] at h1
  exact cas_not_nrm hi hr ((kC_iff hs hi hr).1 hk) h1.1
theorem leg_sq (hi : InvC c) (hm : m ∈ legL c) : ∃ f t : Nat, f < 64 ∧ t < 64 ∧ m = ((f : Int), (t : Int), m.2.2) ∧ (0 ≤ m.2.2 ∧ m.2.2 ≤ 5) ∧ (kindOf (c f) = 1 → -2 ≤ fdif f t ∧ fdif f t ≤ 2) := by
  rcases (leg_iff hi).1 hm with ⟨⟨f, t, hf, ht, ho, hg, hn, e1, e2, hp⟩, _⟩ | ⟨r, hr, hc, rfl⟩
  · refine ⟨f, t, hf, ht, by rw [← e1, ← e2], ?_, fun hk => ?_⟩
    · unfold promOk at hp; split at hp <;> omega
    · unfold tgtP at hg
      rw [if_neg (by omega)] at hg
      unfold reachP at hg
      rw [if_pos hk] at hg
      have := hg.2.1
      constructor
      · refine Classical.byContradiction fun hx => ?_
        have h1 : 3 ≤ - fdif f t := by omega
        have := Int.mul_le_mul h1 h1 (by decide) (by omega)
        rw [Int.neg_mul_neg] at this; omega
      · refine Classical.byContradiction fun hx => ?_
        have h1 : 3 ≤ fdif f t := by omega
        have := Int.mul_le_mul h1 h1 (by decide) (by omega)
        omega
  · obtain ⟨g1, g2, _⟩ := cas_facts hr
    refine ⟨casF r, casT r, g1, g2, rfl, ⟨Int.le_refl 0, show (0 : Int) ≤ 5 by decide⟩, fun _ => ?_⟩
    have hr4 : r = 0 ∨ r = 1 ∨ r = 2 ∨ r = 3 := by omega
    rcases hr4 with rfl | rfl | rfl | rfl <;> decide
end
end Go.Tb
end
section
namespace Go.Tb
open Go Go.Proofs
set_option maxRecDepth 20000
def Msq (g g' : Nat → Int) : Prop := ∀ s : Nat, s < 64 → g' (fl s) = sw (g s)
section
variable {c c' : Nat → Int} {f t s k r : Nat} {m : M3} {p : Int}
theorem Msq.upd {g g' : Nat → Int} (h : Msq g g') {a : Nat} (ha : a < 64) {v v' : Int} (hv : v' = sw v) : Msq (upd g a v) (upd g' (fl a) v') := by
  intro s hs
  rw [upd_at, upd_at]
  by_cases e : s = a
  · subst e; rw [if_pos rfl, if_pos rfl, hv]
  · rw [if_neg e, if_neg (fun x => e ((fl_inj hs ha).1 x))]; exact h s hs
theorem Mir.takes (h : Mir c c') (hf : f < 64) (ht : t < 64) : takesIs c' (fl f : Nat) (fl t : Nat) = takesIs c f t ∧ (takesIs c f t = true → ∃ q : Nat, q < 64 ∧ takesSq c f t = q ∧ takesSq c' (fl f : Nat) (fl t : Nat) = (fl q : Nat)) := by
  have hk := h.kind hf
  have hz := h.z ht
  have hpp : (kindOf (c' (fl f)) = 6 ∧ ((fl f : Nat) : Int) % 8 ≠ ((fl t : Nat) : Int) % 8) ↔ (kindOf (c f) = 6 ∧ (f : Int) % 8 ≠ (t : Int) % 8) := by rw [hk, fl_fi hf, fl_fi ht]
  unfold takesIs takesSq
  simp only [Int.toNat_natCast]
  by_cases hc : c t = 0
  · have n1 : ¬ (c' (fl t) ≠ 0) := fun x => x (hz.2 hc)
    have n2 : ¬ (c t ≠ 0) := fun x => x hc
    by_cases hp : kindOf (c f) = 6 ∧ (f : Int) % 8 ≠ (t : Int) % 8
    · simp only [if_neg n1, if_neg n2, if_pos hp, if_pos (hpp.2 hp)]
      rw [fl_fi ht, fl_rk hf]
      refine ⟨trivial, fun _ => ⟨8 * (f / 8) + t % 8, by omega, ?_, ?_⟩⟩
      · unfold atSq; rw [if_neg (by omega)]; omega
      · unfold atSq fl; rw [if_neg (by omega)]; omega
    · simp only [if_neg n1, if_neg n2, if_neg hp, if_neg (fun x => hp (hpp.1 x))]
      exact ⟨trivial, fun e => by cases e⟩
  · have hc' : c' (fl t) ≠ 0 := fun e => hc (hz.1 e)
    simp only [if_pos (show c t ≠ 0 from hc), if_pos hc']
    exact ⟨trivial, fun _ => ⟨t, ht, rfl, rfl⟩⟩
theorem sw_zero : (0 : Int) = sw 0 := rfl
theorem Mir.mtake (h : Mir c c') (hf : f < 64) (ht : t < 64) : Msq (mdTake c f t) (mdTake c' (fl f : Nat) (fl t : Nat)) := by
  obtain ⟨h1, h2⟩ := h.takes hf ht
  unfold mdTake
  rw [h1]
  by_cases hk : takesIs c f t = true
  · obtain ⟨q, q1, q2, q3⟩ := h2 hk
    rw [if_pos hk, if_pos hk, q2, q3, Int.toNat_natCast, Int.toNat_natCast]
    exact Msq.upd h.sq q1 sw_zero
  · rw [if_neg hk, if_neg hk]; exact h.sq
theorem Mir.mmove (h : Mir c c') (hf : f < 64) (ht : t < 64) : Msq (mdMove c f t) (mdMove c' (fl f : Nat) (fl t : Nat)) := by
  unfold mdMove
  simp only [Int.toNat_natCast]
  exact ((h.mtake hf ht).upd hf sw_zero).upd ht (h.sq f hf)
theorem Mir.mprom (h : Mir c c') (hf : f < 64) (ht : t < 64) (hp : 0 ≤ p ∧ p ≤ 5) : Msq (mdProm c f t p) (mdProm c' (fl f : Nat) (fl t : Nat) p) := by
  unfold mdProm
  by_cases h0 : p = 0
  · rw [if_pos h0, if_pos h0]; exact h.mmove hf ht
  · rw [if_neg h0, if_neg h0, Int.toNat_natCast, Int.toNat_natCast]
    refine (h.mmove hf ht).upd ht ?_
    have h1 := h.t01; have h2 := h.turn
    unfold sw; split <;> (try split) <;> omega
theorem Mir.isCas (h : Mir c c') (hf : f < 64) (ht : t < 64) (hk : kindOf (c f) = 1 → -2 ≤ fdif f t ∧ fdif f t ≤ 2) : isCastle c' (fl f : Nat) (fl t : Nat) ↔ isCastle c f t := by
  unfold isCastle
  simp only [Int.toNat_natCast]
  rw [h.kind hf]
  refine and_congr_right fun h1 => ?_
  have := hk h1
  unfold fdif at this
  unfold fl; omega
theorem Mir.mcast (h : Mir c c') (hf : f < 64) (ht : t < 64) (hp : 0 ≤ p ∧ p ≤ 5) (hk : kindOf (c f) = 1 → -2 ≤ fdif f t ∧ fdif f t ≤ 2) : Msq (mdCast c f t p) (mdCast c' (fl f : Nat) (fl t : Nat) p) := by
  have hi := h.isCas hf ht hk
  unfold mdCast
  by_cases hc : isCastle c f t
  · rw [if_pos hc, if_pos (hi.2 hc)]
    have h1 := hk (by have := hc.1; rwa [Int.toNat_natCast] at this)
    have h2 := hc.2
    unfold fdif at h1
    have e1 : (((fl f : Nat) : Int) + (fl t : Nat)) / 2 = ((fl ((f + t) / 2) : Nat) : Int) := by unfold fl; omega
    have e2 : ((f : Int) + t) / 2 = (((f + t) / 2 : Nat) : Int) := by omega
    have e3 : ∃ q : Nat, q < 64 ∧ cornerOf f t = q ∧ cornerOf (fl f : Nat) (fl t : Nat) = (fl q : Nat) := by
      unfold cornerOf
      by_cases hl : (t : Int) < f
      · refine ⟨8 * (f / 8), by omega, ?_, ?_⟩
        · rw [if_pos hl]; unfold atSq; rw [if_neg (by omega)]; omega
        · rw [if_pos (by unfold fl; omega), fl_rk hf]; unfold atSq fl; rw [if_neg (by omega)]; omega
      · refine ⟨8 * (f / 8) + 7, by omega, ?_, ?_⟩
        · rw [if_neg hl]; unfold atSq; rw [if_neg (by omega)]; omega
        · rw [if_neg (by unfold fl; omega), fl_rk hf]; unfold atSq fl; rw [if_neg (by omega)]; omega
    obtain ⟨q, q1, q2, q3⟩ := e3
    rw [e1, e2, q2, q3]
    simp only [Int.toNat_natCast]
    refine ((h.mprom hf ht hp).upd q1 sw_zero).upd (by omega) ?_
    have h3 := h.t01; have h4 := h.turn
    unfold sw; split <;> (try split) <;> omega
  · rw [if_neg hc, if_neg (fun x => hc (hi.1 x))]; exact h.mprom hf ht hp
theorem home_fl (hr : r < 4) : homeK ((r + 2) % 4 : Nat) = (fl (homeK r).toNat : Nat) ∧ homeR ((r + 2) % 4 : Nat) = (fl (homeR r).toNat : Nat) ∧ (homeK r).toNat < 64 ∧ (homeR r).toNat < 64 ∧ homeK r = ((homeK r).toNat : Nat) ∧ homeR r = ((homeR r).toNat : Nat) := by
  have hr4 : r = 0 ∨ r = 1 ∨ r = 2 ∨ r = 3 := by omega
  rcases hr4 with rfl | rfl | rfl | rfl <;> decide
theorem hit_fl (hr : r < 4) (hf : f < 64) (ht : t < 64) : hitK (fl f : Nat) (fl t : Nat) ((r + 2) % 4) ↔ hitK f t r := by
  obtain ⟨a, b, d, e, g, j⟩ := home_fl hr
  unfold hitK
  rw [a, b, g, j]
  simp only [Int.toNat_natCast]
  have h1 := fl_inj hf d; have h2 := fl_inj hf e; have h3 := fl_inj ht d; have h4 := fl_inj ht e
  omega
theorem Mir.made (h : Mir c c') (hf : f < 64) (ht : t < 64) (hp : 0 ≤ p ∧ p ≤ 5) (hk : kindOf (c f) = 1 → -2 ≤ fdif f t ∧ fdif f t ≤ 2) : Mir (madeC c f t p) (madeC c' (fl f : Nat) (fl t : Nat) p) where
  bd := madeC_bd (by omega) h.bd h.t01 (by omega)
  t01 := by rw [madeC_64]; have := h.t01; omega
  sq s hs := by rw [madeC_lo hs, madeC_lo (fl_lt hs)]; exact h.mcast hf ht hp hk s hs
  turn := by rw [madeC_64, madeC_64]; have := h.turn; omega
  cb := by rw [madeC_65, madeC_65]; exact ⟨(left_bit h.cb.1 4 (Nat.le_refl _)).1, (left_bit h.cb.2 4 (Nat.le_refl _)).1⟩
  cast r hr := by
    rw [madeC_65, madeC_65, (left_bit h.cb.1 4 (Nat.le_refl _)).2 r hr, (left_bit h.cb.2 4 (Nat.le_refl _)).2 ((r + 2) % 4) (by omega), h.cast r hr, hit_fl hr hf ht]
    have : (r + 2) % 4 < 4 := by omega
    simp [hr, this]
  ep := by
    rw [madeC_66, madeC_66]
    have hj : isJump c' (fl f : Nat) (fl t : Nat) ↔ isJump c f t := by
      unfold isJump
      simp only [Int.toNat_natCast]
      rw [h.kind hf]
      refine and_congr_right fun _ => ?_
      unfold fl; omega
    unfold mdEp
    by_cases hc : isJump c f t
    · rw [if_pos hc, if_pos (hj.2 hc)]
      have := hc.2
      refine .inr ⟨by omega, by omega, ?_⟩
      unfold fl; omega
    · rw [if_neg hc, if_neg (fun x => hc (hj.1 x))]; exact .inl ⟨rfl, rfl⟩
theorem Mir.madeQ (h : Mir c c') (hm : ∃ f t : Nat, f < 64 ∧ t < 64 ∧ m = ((f : Int), (t : Int), m.2.2) ∧ (0 ≤ m.2.2 ∧ m.2.2 ≤ 5) ∧ (kindOf (c f) = 1 → -2 ≤ fdif f t ∧ fdif f t ≤ 2)) : Mir (madeM c m) (madeM c' (mirM m)) := by
  obtain ⟨f, t, hf, ht, e, hp, hk⟩ := hm
  rw [e, mirM_nat]
  exact h.made hf ht hp hk
theorem Mir.legQ (h : Mir c c') (hi : InvC c) (hm : ∃ f t : Nat, f < 64 ∧ t < 64 ∧ m = ((f : Int), (t : Int), m.2.2) ∧ (0 ≤ m.2.2 ∧ m.2.2 ≤ 5) ∧ (kindOf (c f) = 1 → -2 ≤ fdif f t ∧ fdif f t ≤ 2)) : legB c' (mirM m) = legB c m := by
  have hmm := h.madeQ hm
  obtain ⟨f, t, hf, ht, e, hp, hk⟩ := hm
  have h64 := hi.turn
  have htn := h.turn
  obtain ⟨k, k1⟩ := hi.king (c 64) (by omega)
  have hkA : KingAt c (c 64) k := k1
  have hkB := h.king (by omega) hkA
  have a1 : ∃ x : Nat, x < 64 ∧ atK c m = x ∧ atK c' (mirM m) = (fl x : Nat) := by
    unfold atK
    rw [show c' 64 = 1 - c 64 from htn, hkA.eq, hkB.eq, e, mirM_nat]
    simp only
    by_cases hx : f = k
    · exact ⟨t, ht, by rw [if_pos (by omega)], by rw [if_pos (by rw [hx])]⟩
    · exact ⟨k, hkA.1, by rw [if_neg (by omega)], by rw [if_neg (fun y => hx ((fl_inj hf hkA.1).1 (by omega)))]⟩
  obtain ⟨x, x1, x2, x3⟩ := a1
  unfold Go.Tb.legB
  rw [x2, x3, show (1 : Int) - c' 64 = 1 - (1 - c 64) by omega, hmm.att x1]
  rw [decide_eq_false (by omega), decide_eq_false (by omega)]
end
end Go.Tb
end
section
namespace Go.Tb
open Go Go.Proofs
set_option maxRecDepth 20000
section
variable {c : Nat → Int} {f t e r : Nat} {p x : Int} {B : Brd} {D : Pd} {s : PSt} {M : Mv} {v : Bool}
theorem or4_keep (h : tOk x ∧ onT 4 x = v) (i : Nat) (hi : i < 6) (h2 : i ≠ 2) : tOk (bor .u16 x (2 ^ i)) ∧ onT 4 (bor .u16 x (2 ^ i)) = v := by
  have := or_on h.1 i 2 hi (by decide)
  rw [show (2 : Int) ^ 2 = 4 from rfl] at this
  refine ⟨or_ok h.1 i hi, ?_⟩
  rw [this, h.2, decide_eq_false h2, Bool.or_false]
theorem tg4_cap (h : tOk M.tags) (hv : (onT 4 M.tags || !occB B.e M.s2) = v) : tOk (tg4 D B M) ∧ onT 4 (tg4 D B M) = v := by
  have t1 : tOk (tg1 D B M) ∧ onT 4 (tg1 D B M) = v := by
    unfold tg1
    cases ho : occB B.e M.s2
    · rw [ho] at hv
      rw [if_pos (by decide)]
      have := or_on h 2 2 (by decide) (by decide)
      rw [show (2 : Int) ^ 2 = 4 from rfl] at this
      exact ⟨or_ok h 2 (by decide), by rw [this, ← hv]; simp⟩
    · rw [ho] at hv
      rw [if_neg (by decide)]
      have h0 : tOk M.tags ∧ onT 4 M.tags = v := ⟨h, by rw [← hv]; simp⟩
      split
      · exact or4_keep h0 3 (by decide) (by decide)
      · exact h0
  have t2 : tOk (tg2 D B M) ∧ onT 4 (tg2 D B M) = v := by
    unfold tg2
    split
    · split
      · exact or4_keep t1 1 (by decide) (by decide)
      · split
        · exact or4_keep t1 0 (by decide) (by decide)
        · exact t1
    · exact t1
  have t3 : tOk (tg3 D B M) ∧ onT 4 (tg3 D B M) = v := by
    unfold tg3
    split
    · exact or4_keep t2 5 (by decide) (by decide)
    · exact t2
  unfold tg4
  split
  · exact or4_keep t3 4 (by decide) (by decide)
  · exact t3
theorem take_n (h : ¬ psP c f t) (p : Int) : tkB c ((f : Int), (t : Int), p) = decide (c t ≠ 0) ∧ psB c ((f : Int), (t : Int), p) = false := by
  unfold psP at h
  unfold psB tkB takesIs takesSq
  simp only [Int.toNat_natCast]
  by_cases hc : c t = 0
  · rw [if_neg (by simp [hc]), if_neg (fun e => h ⟨e.1, e.2, hc⟩)]
    simp [hc]
  · rw [if_pos hc]
    simp [hc]
theorem take_e (h : MvE c f t e) (p : Int) : tkB c ((f : Int), (t : Int), p) = true ∧ psB c ((f : Int), (t : Int), p) = true := by
  have e1 : takesIs c f t = true := by
    unfold takesIs; rw [Int.toNat_natCast, Int.toNat_natCast, if_neg (by simp [h.empty]), if_pos ⟨h.pawn, h.file⟩]
  have e2 : takesSq c f t ≠ t := by
    unfold takesSq; rw [Int.toNat_natCast, Int.toNat_natCast, if_neg (by simp [h.empty]), if_pos ⟨h.pawn, h.file⟩]
    have h1 := h.hf; have h2 := h.ht; have h3 := h.rk
    unfold atSq upOf at *
    split <;> (try split at h3) <;> omega
  unfold psB tkB
  simp only
  rw [e1, decide_eq_false e2]; exact ⟨rfl, rfl⟩
structure BitsC (c : Nat → Int) (M : Mv) : Prop where
  t8 : tagOn M 8 = psB c (toM M)
  t48 : (tagOn M 4 || tagOn M 8) = tkB c (toM M)
  t12 : (tagOn M 1 || tagOn M 2) = ksB c (toM M)
theorem BitsC.mk' {m : M3} (hto : toM M = m) {b1 b2 b4 b8 b16 b32 : Bool} (h : TagsAre M.tags b1 b2 b8 b16 b32) (h4 : onT 4 M.tags = b4) (e8 : b8 = psB c m) (e48 : (b4 || b8) = tkB c m) (e12 : (b1 || b2) = ksB c m) : BitsC c M := by
  subst hto
  refine ⟨?_, ?_, ?_⟩
  · rw [tagOn_eq, h.t8, e8]
  · rw [tagOn_eq, tagOn_eq, h.t8, h4, e48]
  · rw [tagOn_eq, tagOn_eq, h.t1, h.t2, e12]
theorem tok0 : tOk 0 := ⟨by decide, by decide⟩
theorem on40 : onT 4 0 = false := by decide
theorem qr_cap (hr : RepB c B) (hb : Bd c) (ht : t < 64) : ∀ n : Nat, tOk (qrT D B f t n) ∧ onT 4 (qrT D B f t n) = (decide (0 < n) && decide (c t ≠ 0))
  | 0 => ⟨tok0, by rw [show qrT D B f t 0 = 0 from rfl, on40]; simp⟩
  | n + 1 => by
    obtain ⟨ih1, ih2⟩ := qr_cap hr hb ht n
    refine tg4_cap (M := ⟨qrT D B f t n, f, t, (n : Int) + 2⟩) ih1 ?_
    show (onT 4 (qrT D B f t n) || !occB B.e (t : Int)) = _
    rw [ih2, occ_empty hr hb ht]
    by_cases hc : c t = 0 <;> simp [hc]
theorem nm_cap (hr : RepB c B) (hb : Bd c) (ht : t < 64) : onT 4 (nmM D B f t).tags = decide (c t ≠ 0) := by
  refine (tg4_cap (M := ⟨0, f, t, 0⟩) tok0 ?_).2
  show (onT 4 0 || !occB B.e (t : Int)) = _
  rw [occ_empty hr hb ht, on40]
  by_cases hc : c t = 0 <;> simp [hc]
theorem ks_n (h : ¬ isCastle c f t) (p : Int) : ksB c ((f : Int), (t : Int), p) = false := decide_eq_false h
theorem std_bits (hr : RepD c D B) (hi : InvC c) {M : Mv} (h : M ∈ stdL D B) : BitsC c M := by
  obtain ⟨f, t, hf, ht, ho, h1, h2, h3⟩ := (std_mem hr hi).1 h
  rcases h3 with ⟨hl, q, hq, rfl, e⟩ | ⟨hl, rfl, e⟩
  · obtain ⟨a1, a2⟩ := qr_tags hr hi hf ht ho h1 h2 hl (q + 1) (by omega)
    have hnp := last_nops hi hl h1 hf ht ho h2
    have hm := mvN_of (p := (q : Int) + 2) hi hf ht ho h1 h2 (.inr ⟨by omega, hl.1⟩) hnp
    obtain ⟨e1, e2⟩ := take_n hnp ((q : Int) + 2)
    have hcap := (qr_cap (D := D) (f := f) hr.b hi.bd ht (q + 1)).2
    refine BitsC.mk' (m := ((f : Int), (t : Int), (q : Int) + 2)) rfl a1 hcap e2.symm ?_ ?_
    · rw [e1]; simp
    · rw [ks_n hm.nocas]; rfl
  · by_cases hp : psP c f t
    · obtain ⟨e, he⟩ := mvE_of hi hf ht ho h1 h2 hp
      obtain ⟨a1, _⟩ := all_E (M := ⟨0, f, t, 0⟩) hr.b hi he hr.turn hr.ep rfl rfl rfl TagsAre.zero
      obtain ⟨e1, e2⟩ := take_e he 0
      refine BitsC.mk' (m := ((f : Int), (t : Int), 0)) rfl a1 (nm_cap (D := D) (f := f) hr.b hi.bd ht) e2.symm ?_ ?_
      · rw [e1]; simp
      · rw [ks_n (fun hk => by have := hk.1; rw [Int.toNat_natCast, he.pawn] at this; omega)]; rfl
    · have hm := mvN_of (p := 0) hi hf ht ho h1 h2 (.inl rfl) hp
      obtain ⟨a1, _⟩ := all_N (M := ⟨0, f, t, 0⟩) hr.b hi hm hr.turn hr.ep rfl rfl rfl TagsAre.zero
      obtain ⟨e1, e2⟩ := take_n hp 0
      refine BitsC.mk' (m := ((f : Int), (t : Int), 0)) rfl a1 (nm_cap (D := D) (f := f) hr.b hi.bd ht) e2.symm ?_ ?_
      · rw [e1]; simp
      · rw [ks_n hm.nocas]; rfl
theorem cas_bits (hs : RepS c s) (hi : InvC c) (hr : r < 4) (h : kC s.1 s.2.1 s.2.2 r = true) : BitsC c (kM s.2.1 s.2.2 r) := by
  have hc := (kC_iff hs hi hr).1 h
  have hmv := hc.mv hi hr
  obtain ⟨q1, q2, q3⟩ := kM0_sq hr
  obtain ⟨a1, _⟩ := all_K (M := kM0 r) hs.d.b hi hmv.toMvK hs.d.turn hs.d.ep q1 q2 q3 (kM0_tags hr)
  have hto := hmv.to
  have hk := hmv.king
  have h64 := hi.turn
  obtain ⟨g1, g2, _⟩ := cas_facts hr
  have hT : (casT r : Int) = casF r + 2 ∨ (casT r : Int) = casF r - 2 := by
    have hr4 : r = 0 ∨ r = 1 ∨ r = 2 ∨ r = 3 := by omega
    rcases hr4 with rfl | rfl | rfl | rfl <;> decide
  have hkk : kindOf (c (casF r)) = 1 := by rw [hk]; exact kind_king (by omega)
  have hps : ¬ psP c (casF r) (casT r) := fun h => by have := h.1; omega
  obtain ⟨e1, e2⟩ := take_n hps 0
  have hcap : onT 4 (kM s.2.1 s.2.2 r).tags = false := by
    refine (tg4_cap (M := kM0 r) (kM0_tags hr).ok ?_).2
    rw [q2, occ_empty hs.d.b hi.bd g2, hto]
    have hr4 : r = 0 ∨ r = 1 ∨ r = 2 ∨ r = 3 := by omega
    rcases hr4 with rfl | rfl | rfl | rfl <;> decide
  refine BitsC.mk' (m := ((casF r : Int), (casT r : Int), 0)) (kM_to _ _ hr) a1 hcap e2.symm ?_ ?_
  · rw [e1, hto]; rfl
  · rw [show ksB c ((casF r : Int), (casT r : Int), 0) = true from decide_eq_true ⟨by rw [Int.toNat_natCast]; exact hkk, hT⟩]
    have : r % 2 = 0 ∨ r % 2 = 1 := by omega
    rcases this with h | h <;> simp [h]
theorem all_bits (hs : RepS c s) (hi : InvC c) (h : M ∈ allS s) : BitsC c M := by
  unfold allS allL at h
  rcases List.mem_append.1 h with h | h
  · exact std_bits hs.d hi h
  · obtain ⟨r, hr, hk, rfl⟩ := (cs_mem 4).1 h
    exact cas_bits hs hi hr hk
end
end Go.Tb
end
