/-
  A part of the proof (my own): of the texts that the claim's last text rests on: parts K5, K7, P9, P10.
-/
import Derived.Test.YtigjokkakcmmdaaGreatDoorT21
import Derived.Test.YtigjokkakcmmdaaGreatDoorT19
import Derived.Test.YtigjokkakcmmdaaGreatDoorT12
import Derived.Test.YtigjokkakcmmdaaGreatDoorT17
import Derived.Test.YtigjokkakcmmdaaGreatDoorT20
set_option linter.unusedSimpArgs false
set_option linter.unusedVariables false
section
namespace Go.Tb
open Go Go.Proofs
variable {z : Nat × Nat}
set_option maxRecDepth 20000
def zMv : Mv := ⟨0, 0, 0, 0⟩
def vsL (l : List Mv) : List Value := l.flatMap mvL
theorem vsL_nil : vsL [] = [] := rfl
theorem vsL_app (a b : List Mv) : vsL (a ++ b) = vsL a ++ vsL b := by simp [vsL]
theorem vsL_one (m : Mv) : vsL [m] = mvL m := by simp [vsL]
theorem vsL_cons (m : Mv) (l : List Mv) : vsL (m :: l) = mvL m ++ vsL l := by simp [vsL]
theorem vsL_pl (l : List Mv) : ∀ v ∈ vsL l, Pl v := by
  intro v hv
  simp only [vsL, List.mem_flatMap] at hv
  obtain ⟨m, _, h⟩ := hv
  exact mvL_pl m v h
theorem vsL_len (l : List Mv) : (vsL l).length = l.length * 11 := by
  induction l with
  | nil => rfl
  | cons m l ih => rw [vsL_cons, List.length_append, mvL_len, ih, List.length_cons]; omega
def vAt (l : List Mv) (i : Nat) : Mv := l.getD i zMv
theorem vAt_get {l : List Mv} {i : Nat} (h : i < l.length) : l[i]? = some (vAt l i) := by simp [vAt, List.getD_eq_getElem?_getD, h]
theorem vAt_mem {l : List Mv} {i : Nat} (h : i < l.length) : vAt l i ∈ l := List.mem_of_getElem? (vAt_get h)
theorem vsL_split {l : List Mv} {i : Nat} (h : i < l.length) : vsL l = vsL (l.take i) ++ (mvL (vAt l i) ++ vsL (l.drop (i + 1))) := by
  conv => lhs; rw [← List.take_append_drop i l]
  rw [vsL_app]
  congr 1
  have e : l.drop i = vAt l i :: l.drop (i + 1) := by
    rw [List.drop_eq_getElem_cons h]
    congr 1
    have := vAt_get h
    rw [List.getElem?_eq_getElem h] at this
    exact Option.some.inj this
  rw [e, vsL_cons]
theorem vsL_subT {l : List Mv} {tl : List Value} {i : Nat} (h : i < l.length) : sub (vsL l ++ tl) (i * 11) 11 = some (mvL (vAt l i)) := by
  have hl : (vsL (l.take i)).length = i * 11 := by rw [vsL_len, List.length_take]; omega
  unfold sub
  rw [if_pos (by rw [List.length_append, vsL_len]; omega), vsL_split h, List.append_assoc, List.drop_append, List.drop_of_length_le (by omega), hl, Nat.sub_self, List.drop_zero, List.nil_append]
  rfl
theorem vsL_sub {l : List Mv} {i : Nat} (h : i < l.length) : sub (vsL l) (i * 11) 11 = some (mvL (vAt l i)) := by
  have := vsL_subT (tl := []) h
  rwa [List.append_nil] at this
theorem vsL_g {l : List Mv} {tl : List Value} {i j : Nat} (h : i < l.length) (hj : j < 11) : (vsL l ++ tl)[i * 11 + j]? = (mvL (vAt l i))[j]? := by
  have hl : (vsL (l.take i)).length = i * 11 := by rw [vsL_len, List.length_take]; omega
  rw [vsL_split h, List.append_assoc, List.getElem?_append_right (by omega), hl, Nat.add_sub_cancel_left, List.append_assoc, List.getElem?_append_left (by simpa [mvL] using hj)]
theorem mvL_al (m : Mv) : (mvL m).all one = true := rfl
theorem vsL_one' (l : List Mv) : (vsL l).all one = true := by
  rw [List.all_eq_true]
  intro v hv
  simp only [vsL, List.mem_flatMap] at hv
  obtain ⟨m, _, h⟩ := hv
  exact List.all_eq_true.1 (mvL_al m) v h
theorem vsL_set {l : List Mv} {k : Nat} {m : Mv} (h : k < l.length) : vsL (l.set k m) = vsL (l.take k) ++ (mvL m ++ vsL (l.drop (k + 1))) := by
  have hk : k < (l.set k m).length := by simpa using h
  rw [vsL_split hk]
  have e1 : (l.set k m).take k = l.take k := by rw [List.take_set_of_le (Nat.le_refl k)]
  have e2 : (l.set k m).drop (k + 1) = l.drop (k + 1) := by rw [List.drop_set_of_lt (by omega)]
  have e3 : vAt (l.set k m) k = m := by simp [vAt, List.getD_eq_getElem?_getD, h]
  rw [e1, e2, e3]
theorem spl_vs {l : List Mv} {k : Nat} {m : Mv} (h : k < l.length) : spl (vsL l) (k * 11) (mvL m) = vsL (l.set k m) := by
  have hl : (vsL (l.take k)).length = k * 11 := by rw [vsL_len, List.length_take]; omega
  rw [vsL_set h]
  conv => lhs; rw [vsL_split h]
  rw [← hl, spl_mid _ _ _ _ (by simp [mvL])]
theorem wr_vs {l : List Mv} {T : TypeId} {L : List AO} {i k : Nat} {m : Mv} (h : k < l.length) : wrC (some (.cells (vsL l) T)) L i 11 (k * 11) (mvL m) = some (L.set i (.cells (vsL (l.set k m)) T)) := by
  rw [wrC_in (s := 11) rfl rfl (by simp [vsL_len]; omega), spl_vs h]
def padV (n : Nat) (l : List Mv) : List Mv := l ++ List.replicate (n - l.length) zMv
theorem padV_len {n : Nat} {l : List Mv} (h : l.length ≤ n) : (padV n l).length = n := by simp [padV]; omega
theorem padV_set {n : Nat} {l : List Mv} {m : Mv} (h : l.length < n) : (padV n l).set l.length m = padV n (l ++ [m]) := by
  unfold padV
  rw [List.set_append_right _ _ (Nat.le_refl _), Nat.sub_self, show n - l.length = (n - (l ++ [m]).length) + 1 by simp; omega, List.replicate_succ, List.set_cons_zero]
  simp
theorem wr_pad {n : Nat} {l : List Mv} {T : TypeId} {L : List AO} {i : Nat} {m : Mv} (h : l.length < n) : wrC (some (.cells (vsL (padV n l)) T)) L i 11 (l.length * 11) (mvL m) = some (L.set i (.cells (vsL (padV n (l ++ [m]))) T)) := by
  rw [wr_vs (by rw [padV_len (by omega)]; exact h), padV_set h]
theorem wr_mv0 {a b : Mv} {T : TypeId} {L : List AO} {i : Nat} : wrC (some (.cells (mvL a) T)) L i 11 0 (mvL b) = some (L.set i (.cells (mvL b) T)) := by
  rw [wrC_in (s := 11) rfl rfl (by simp [mvL_len])]; rfl
theorem wr_pad0 {n : Nat} {T : TypeId} {L : List AO} {i : Nat} {m : Mv} (h : 0 < n) : wrC (some (.cells (vsL (padV n [])) T)) L i 11 0 (mvL m) = some (L.set i (.cells (vsL (padV n [m])) T)) := by
  have := wr_pad (n := n) (l := []) (T := T) (L := L) (i := i) (m := m) h
  simpa using this
theorem rep_vs {n : Nat} : (List.replicate n ([.pointer none, .pointer none, .string ⟨#[]⟩, .string ⟨#[]⟩, .map none, .slice none 0 0, .int .u64 0, .int .u16 0, .int .i8 0, .int .i8 0, .int .i8 0] : List Value)).flatten = vsL (padV n []) := by
  show (List.replicate n (mvL zMv)).flatten = _
  simp [padV, vsL, List.flatMap_replicate]
theorem rep_vs2 {n : Nat} : (List.replicate n (mvL ⟨0, 0, 0, 0⟩)).flatten = vsL (padV n []) := rep_vs
theorem sl133 {b k : Nat} (h : k ≤ 2) : sliceV Tryz.prog 133 (.pointer (some ⟨b, 0, none⟩)) none (some (some (.int .i64 (k : Int)))) = some (.slice (some ⟨b, 0, none⟩) k 2) := by
  have ht : tElem Tryz.prog 133 = some (some 2, 60, true, 11) := by kernel_rfl
  simp only [sliceV, ht, bdV]
  rw [if_pos (by omega), Option.bind_some, Option.map_some, if_neg (by decide), Int.toNat_natCast, Nat.zero_mul, Nat.add_zero, Nat.sub_zero, Nat.sub_zero]
theorem sl126 {b k : Nat} (h : k ≤ 218) : sliceV Tryz.prog 126 (.pointer (some ⟨b, 0, none⟩)) none (some (some (.int .i64 (k : Int)))) = some (.slice (some ⟨b, 0, none⟩) k 218) := by
  have ht : tElem Tryz.prog 126 = some (some 218, 60, true, 11) := by kernel_rfl
  simp only [sliceV, ht, bdV]
  rw [if_pos (by omega), Option.bind_some, Option.map_some, if_neg (by decide), Int.toNat_natCast, Nat.zero_mul, Nat.add_zero, Nat.sub_zero, Nat.sub_zero]
theorem sl132 {b : Nat} : sliceV Tryz.prog 132 (.pointer (some ⟨b, 0, none⟩)) none none = some (.slice (some ⟨b, 0, none⟩) 1 1) := by
  have ht : tElem Tryz.prog 132 = some (some 1, 60, true, 11) := by kernel_rfl
  simp only [sliceV, ht, bdV]
  rfl
theorem mv_lit (a b c d : Int) : ([.pointer none, .pointer none, .string ⟨#[]⟩, .string ⟨#[]⟩, .map none, .slice none 0 0, .int .u64 0, .int .u16 a, .int .i8 b, .int .i8 c, .int .i8 d] : List Value) = mvL ⟨a, b, c, d⟩ := rfl
theorem VS.cutT {X : Cx} {n0 : Nat} {fr fr' : Fr} {L M : List AO} (h : M.take L.length = L) (hn : n0 ≤ L.length) (hw : allW (100 + L.length) L) (hf : subW (100 + L.length) fr fr') : VS X n0 (fr, M) (fr', L) := by
  have e : M = L ++ M.drop L.length := by conv => lhs; rw [← List.take_append_drop L.length M, h]
  rw [e]; exact VS.cutE hn hw hf
section
variable {X : Cx} {all os : List Oper} {ss : List Bool} {fr : Fr} {L : List AO} {K : Fr → List AO → Prop} {dst : Option Tmp} {op : Op} {want : Bool} {type : TypeId} {pos : String} {after : Array Edge}
def yD (X : Cx) (c : Option Value) (want : Bool) (dst : Option Tmp) (op : Op) (all os : List Oper) (ss : List Bool) (fr : Fr) (L : List AO) (K : Fr → List AO → Prop) : Prop :=
  onG c want (yE X (outE X fr L op) dst all os ss fr L K) (wpPy X all os ss (fr.put dst (.tuple #[])) L K)
theorem py_eg (j : Nat) (h : yD X (gd all fr j) want dst op all os ss fr L K) : wpPy X all ({ dst, op, type, pos, after, guard := some (j, want) } :: os) (true :: ss) fr L K :=
  onG_mono h (fun h => onE_wpO h) fun h => h
theorem yD_tt : yD X (some (.bool true)) true dst op all os ss fr L K = yE X (outE X fr L op) dst all os ss fr L K := by simp [yD, onG]
theorem yD_ft : yD X (some (.bool false)) true dst op all os ss fr L K = wpPy X all os ss (fr.put dst (.tuple #[])) L K := by simp [yD, onG]
theorem yD_bool {c : Bool} (h1 : c = true → yD X (some (.bool true)) want dst op all os ss fr L K) (h2 : c = false → yD X (some (.bool false)) want dst op all os ss fr L K) : yD X (some (.bool c)) want dst op all os ss fr L K := by
  cases c
  · exact h2 rfl
  · exact h1 rfl
theorem yD_dec {p : Prop} {_ : Decidable p} (h1 : p → yD X (some (.bool true)) want dst op all os ss fr L K) (h2 : ¬ p → yD X (some (.bool false)) want dst op all os ss fr L K) : yD X (some (.bool (decide p))) want dst op all os ss fr L K :=
  yD_bool (fun h => h1 (of_decide_eq_true h)) (fun h => h2 (of_decide_eq_false h))
theorem yC_decT {p : Prop} {_ : Decidable p} (h : p) (k : yC X (some (.bool true)) want dst op all os ss fr L K) : yC X (some (.bool (decide p))) want dst op all os ss fr L K := by rwa [decide_eq_true h]
theorem yC_decF {p : Prop} {_ : Decidable p} (h : ¬ p) (k : yC X (some (.bool false)) want dst op all os ss fr L K) : yC X (some (.bool (decide p))) want dst op all os ss fr L K := by rwa [decide_eq_false h]
theorem yC_bT {c : Bool} (h : c = true) (k : yC X (some (.bool true)) want dst op all os ss fr L K) : yC X (some (.bool c)) want dst op all os ss fr L K := by rwa [h]
theorem yC_bF {c : Bool} (h : c = false) (k : yC X (some (.bool false)) want dst op all os ss fr L K) : yC X (some (.bool c)) want dst op all os ss fr L K := by rwa [h]
theorem yD_decT {p : Prop} {_ : Decidable p} (h : p) (k : yD X (some (.bool true)) want dst op all os ss fr L K) : yD X (some (.bool (decide p))) want dst op all os ss fr L K := by rwa [decide_eq_true h]
theorem yD_decF {p : Prop} {_ : Decidable p} (h : ¬ p) (k : yD X (some (.bool false)) want dst op all os ss fr L K) : yD X (some (.bool (decide p))) want dst op all os ss fr L K := by rwa [decide_eq_false h]
theorem yD_bT {c : Bool} (h : c = true) (k : yD X (some (.bool true)) want dst op all os ss fr L K) : yD X (some (.bool c)) want dst op all os ss fr L K := by rwa [h]
theorem yD_bF {c : Bool} (h : c = false) (k : yD X (some (.bool false)) want dst op all os ss fr L K) : yD X (some (.bool c)) want dst op all os ss fr L K := by rwa [h]
theorem yG_callR {f : FuncId} {vs0 vs : List Value} {L0 : List AO} {v : Value} (h : FnR X f vs0 L0 v) (idx : List Nat) (hi : idxOk idx L0.length L.length = true) (hf : fitL (sig idx L.length) L idx L0) (hvs : vs = vs0.map (rl (sig idx L.length)))
    (hk : wpPy X all os ss (fr.put dst (rl (sig idx L.length) v)) L K) : yG X (.c (f, [], []) vs) dst all os ss fr L K := by
  show CallQ X f ([] ++ vs ++ []) L _
  rw [List.nil_append, List.append_nil]
  exact h.useQ idx hi hf hvs hk
end
@[congr] theorem yD_congr {X : Cx} {c c' : Option Value} (want dst op all os ss) {fr fr' : Fr} {L L' : List AO} (K : Fr → List AO → Prop) (h : c = c') (h' : fr = fr') (h2 : L = L') : yD X c want dst op all os ss fr L K = yD X c' want dst op all os ss fr' L' K := by rw [h, h', h2]
attribute [go_sem] yD_tt yD_ft
def anyAtt (B : Brd) (t : Int) (ss : List Int) : Bool := (List.range ss.length).any fun i => attS B t (i8C ss i)
theorem att_ok2 (D : Pd) (B : Brd) (a b : Int) (ha : 0 ≤ a ∧ a ≤ 63) (hb : 0 ≤ b ∧ b ≤ 63) (ht : D.turn = 1 ∨ D.turn = 2) :
    FnR (Tz z) 84 [.pointer (some ⟨100, 0, none⟩), .slice (some ⟨102, 0, none⟩) 2 2] [.cells (psL 101 nilS D) 82, .cells (boardL B) 110, .cells [.int .i8 a, .int .i8 b] 57] (.bool (anyAtt B D.turn [a, b])) :=
  att_ok D B [a, b] (fun k => by rcases k with _ | _ | k <;> simp [i8C] <;> omega) (by simp) ht
def kB (D : Pd) (B : Brd) (t : Int) (can : Bool) (em : BitVec 64) (ss : List Int) : Bool :=
  decide (D.turn = t) && (can && (decide (~~~B.e &&& em = 0#64) && (!anyAtt B D.turn ss && !D.chk)))
def kC (l : List UInt8) (D : Pd) (B : Brd) : Nat → Bool
  | 0 => kB D B 1 (canB l D.turn 1) (sqB 5 ||| sqB 6) [5, 6]
  | 1 => kB D B 1 (canB l D.turn 2) (sqB 1 ||| sqB 2 ||| sqB 3) [2, 3]
  | 2 => kB D B 2 (canB l D.turn 1) (sqB 61 ||| sqB 62) [61, 62]
  | _ => kB D B 2 (canB l D.turn 2) (sqB 57 ||| sqB 58 ||| sqB 59) [58, 59]
def kM0 : Nat → Mv
  | 0 => ⟨bor .u16 0 1, 4, 6, 0⟩
  | 1 => ⟨bor .u16 0 2, 4, 2, 0⟩
  | 2 => ⟨bor .u16 0 1, 60, 62, 0⟩
  | _ => ⟨bor .u16 0 2, 60, 58, 0⟩
def kM (D : Pd) (B : Brd) (k : Nat) : Mv := { kM0 k with tags := tg4 D B (kM0 k) }
def csL (l : List UInt8) (D : Pd) (B : Brd) : Nat → List Mv
  | 0 => []
  | k + 1 => csL l D B k ++ if kC l D B k = true then [kM D B k] else []
theorem csL_y {l : List UInt8} {D : Pd} {B : Brd} {k : Nat} (h : kC l D B k = true) : csL l D B (k + 1) = csL l D B k ++ [kM D B k] := by simp only [csL]; rw [if_pos h]
theorem csL_n {l : List UInt8} {D : Pd} {B : Brd} {k : Nat} (h : kC l D B k = false) : csL l D B (k + 1) = csL l D B k := by simp only [csL]; rw [if_neg (by simp [h]), List.append_nil]
theorem csL_len (l : List UInt8) (D : Pd) (B : Brd) : ∀ k, (csL l D B k).length ≤ k
  | 0 => Nat.le_refl 0
  | k + 1 => by
    have := csL_len l D B k
    simp only [csL]; split <;> simp <;> omega
theorem kB_t {D : Pd} {B : Brd} {t : Int} {can : Bool} {em : BitVec 64} {ss : List Int} (h : kB D B t can em ss = true) : D.turn = t := by
  unfold kB at h; rw [Bool.and_eq_true] at h; exact of_decide_eq_true h.1
theorem csL_b2 {l : List UInt8} {D : Pd} {B : Brd} : D.turn = 1 ∨ (csL l D B 2).length = 0 := by
  by_cases h : D.turn = 1
  · exact .inl h
  · right
    rw [csL_n (k := 1), csL_n (k := 0)]
    · rfl
    · exact Bool.eq_false_iff.2 fun e => h (kB_t e)
    · exact Bool.eq_false_iff.2 fun e => h (kB_t e)
theorem csL_b3 {l : List UInt8} {D : Pd} {B : Brd} : D.turn = 1 ∨ (csL l D B 3).length ≤ 1 := by
  rcases csL_b2 (l := l) (D := D) (B := B) with h | h
  · exact .inl h
  · right
    rw [show csL l D B 3 = csL l D B 2 ++ if kC l D B 2 = true then [kM D B 2] else [] from rfl]
    split <;> simp only [List.length_append, List.length_cons, List.length_nil] <;> omega
theorem csL_b4 {l : List UInt8} {D : Pd} {B : Brd} : (csL l D B 4).length ≤ 2 := by
  by_cases h : D.turn = 1
  · rw [csL_n (k := 3), csL_n (k := 2)]
    · exact csL_len l D B 2
    · exact Bool.eq_false_iff.2 fun e => by have := kB_t e; omega
    · exact Bool.eq_false_iff.2 fun e => by have := kB_t e; omega
  · have h3 := csL_b3 (l := l) (D := D) (B := B)
    rw [show csL l D B 4 = csL l D B 3 ++ if kC l D B 3 = true then [kM D B 3] else [] from rfl]
    split <;> simp only [List.length_append, List.length_cons, List.length_nil] <;> omega
section
variable {D : Pd} {B : Brd} {t : Int} {can : Bool} {em : BitVec 64} {ss : List Int}
theorem kB_y (h1 : D.turn = t) (h2 : can = true) (h3 : ~~~B.e &&& em = 0#64) (h4 : (!anyAtt B D.turn ss) = true) (h5 : (!D.chk) = true) : kB D B t can em ss = true := by
  unfold kB; rw [decide_eq_true h1, h2, decide_eq_true h3, h4, h5]; rfl
theorem kB_n1 (h : ¬ D.turn = t) : kB D B t can em ss = false := by unfold kB; rw [decide_eq_false h]; rfl
theorem kB_n2 (h : can = false) : kB D B t can em ss = false := by unfold kB; rw [h]; simp
theorem kB_n3 (h : ¬ ~~~B.e &&& em = 0#64) : kB D B t can em ss = false := by unfold kB; rw [decide_eq_false h]; simp
theorem kB_n4 (h : (!anyAtt B D.turn ss) = false) : kB D B t can em ss = false := by unfold kB; rw [h]; simp
theorem kB_n5 (h : (!D.chk) = false) : kB D B t can em ss = false := by unfold kB; rw [h]; simp
end
theorem kM0_bd (k : Nat) : (0 ≤ (kM0 k).s1 ∧ (kM0 k).s1 ≤ 63) ∧ (0 ≤ (kM0 k).s2 ∧ (kM0 k).s2 ≤ 63) ∧ (kM0 k).promo = 0 := by
  rcases k with _ | _ | _ | k <;> simp [kM0]
theorem kTags_ok (k : Nat) (D : Pd) (B : Brd) (ht : D.turn = 1 ∨ D.turn = 2) (hw : -1 ≤ B.wks ∧ B.wks ≤ 63) (hb : -1 ≤ B.bks ∧ B.bks ≤ 63) :
    FnM (Tz z) 88 [.pointer (some ⟨100, 0, none⟩), .pointer (some ⟨101, 0, none⟩)] [.cells (mvL (kM0 k)) 60, .cells (psL 102 nilS D) 82, .cells (boardL B) 110] (fun _ : Unit => True) (fun _ => .tuple #[]) (fun _ => [.cells (mvL (kM D B k)) 60, .cells (psL 102 nilS D) 82, .cells (boardL B) 110]) :=
  addTags_ok (kM0 k) D B (kM0_bd k).1 (kM0_bd k).2.1 (fun h => absurd (kM0_bd k).2.2 h) ht hw hb
end Go.Tb
end
section
namespace Go.Tb
open Go Go.Proofs
variable {z : Nat × Nat}
set_option maxRecDepth 20000
def fK (f : Nat → List Mv) : Nat → List Mv
  | 0 => []
  | k + 1 => fK f k ++ f k
theorem fK_0 (f : Nat → List Mv) : fK f 0 = [] := rfl
theorem fK_S (f : Nat → List Mv) (k : Nat) : fK f (k + 1) = fK f k ++ f k := rfl
theorem fK_le (f : Nat → List Mv) {k n : Nat} (h : k ≤ n) : (fK f k).length ≤ (fK f n).length := by
  induction n with
  | zero => rw [show k = 0 by omega]; exact Nat.le_refl _
  | succ n ih =>
    rcases Nat.lt_or_ge k (n + 1) with h1 | h1
    · have := ih (by omega)
      rw [fK_S, List.length_append]; omega
    · rw [show k = n + 1 by omega]; exact Nat.le_refl _
theorem fK_nil {f : Nat → List Mv} : ∀ {n : Nat}, (∀ k, k < n → f k = []) → fK f n = []
  | 0, _ => rfl
  | n + 1, h => by rw [fK_S, fK_nil fun k hk => h k (by omega), h n (by omega)]; rfl
def keepM (m : Mv) : List Mv := if 0 < band .u16 32 m.tags then [] else [m]
theorem keepM_y {m : Mv} (h : ¬ 0 < band .u16 32 m.tags) : keepM m = [m] := if_neg h
theorem keepM_n {m : Mv} (h : 0 < band .u16 32 m.tags) : keepM m = [] := if_pos h
theorem keepM_len (m : Mv) : (keepM m).length ≤ 1 := by unfold keepM; split <;> simp
def qrT (D : Pd) (B : Brd) (s1 s2 : Nat) : Nat → Int
  | 0 => 0
  | q + 1 => tg4 D B ⟨qrT D B s1 s2 q, s1, s2, (q : Int) + 2⟩
def qrM (D : Pd) (B : Brd) (s1 s2 q : Nat) : Mv := ⟨qrT D B s1 s2 (q + 1), s1, s2, (q : Int) + 2⟩
def nmM (D : Pd) (B : Brd) (s1 s2 : Nat) : Mv := ⟨tg4 D B ⟨0, s1, s2, 0⟩, s1, s2, 0⟩
def allowB (D : Pd) (B : Brd) : BitVec 64 := if D.turn = 2 then ~~~B.b else ~~~B.w
def toB (D : Pd) (B : Brd) (p : Int) (s1 : Nat) : BitVec 64 := pmB D B (pTyp p) s1 &&& allowB D B
def promS (p : Int) (s2 : Nat) : Bool := decide ((p = 6 ∧ (s2 : Int) / 8 = 7) ∨ (p = 12 ∧ (s2 : Int) / 8 = 0))
def qrL (D : Pd) (B : Brd) (s1 s2 : Nat) : Nat → List Mv := fK fun q => keepM (qrM D B s1 s2 q)
def oneL (D : Pd) (B : Brd) (p : Int) (s1 s2 : Nat) : List Mv :=
  if toB D B p s1 &&& sqB s2 = 0#64 then [] else if promS p s2 = true then qrL D B s1 s2 4 else keepM (nmM D B s1 s2)
def s2L (D : Pd) (B : Brd) (p : Int) (s1 : Nat) : Nat → List Mv := fK (oneL D B p s1)
def fromL (D : Pd) (B : Brd) (p : Int) (s1 : Nat) : List Mv := if getP B p &&& sqB s1 = 0#64 then [] else s2L D B p s1 64
def s1L (D : Pd) (B : Brd) (p : Int) : Nat → List Mv := fK (fromL D B p)
def pieL (D : Pd) (B : Brd) (k : Nat) : List Mv := if D.turn = pCol ((k : Int) + 1) then s1L D B ((k : Int) + 1) 64 else []
def stdK (D : Pd) (B : Brd) : Nat → List Mv := fK (pieL D B)
def stdL (D : Pd) (B : Brd) : List Mv := stdK D B 12
def aK2 (D : Pd) (B : Brd) (k s1 : Nat) : List Mv := stdK D B k ++ s1L D B ((k : Int) + 1) s1
def aK3 (D : Pd) (B : Brd) (k s1 s2 : Nat) : List Mv := aK2 D B k s1 ++ s2L D B ((k : Int) + 1) s1 s2
def aK4 (D : Pd) (B : Brd) (k s1 s2 q : Nat) : List Mv := aK3 D B k s1 s2 ++ qrL D B s1 s2 q
section
variable {D : Pd} {B : Brd} {k s1 s2 q : Nat}
theorem stdK_0 : stdK D B 0 = [] := rfl
theorem aK2_0 : aK2 D B k 0 = stdK D B k := by simp [aK2, s1L, fK_0]
theorem aK3_0 : aK3 D B k s1 0 = aK2 D B k s1 := by simp [aK3, s2L, fK_0]
theorem aK4_0 : aK4 D B k s1 s2 0 = aK3 D B k s1 s2 := by simp [aK4, qrL, fK_0]
theorem stdK_n (h : ¬ D.turn = pCol ((k : Int) + 1)) : stdK D B (k + 1) = stdK D B k := by
  unfold stdK; rw [fK_S, pieL, if_neg h, List.append_nil]
theorem stdK_e (h : D.turn = pCol ((k : Int) + 1)) : stdK D B (k + 1) = aK2 D B k 64 := by
  unfold stdK; rw [fK_S, pieL, if_pos h]; rfl
theorem stdK_z (h : getP B ((k : Int) + 1) = 0#64) : stdK D B (k + 1) = stdK D B k := by
  by_cases ht : D.turn = pCol ((k : Int) + 1)
  · rw [stdK_e ht, aK2, s1L, fK_nil, List.append_nil]
    intro j _; rw [fromL, if_pos (by rw [h]; simp)]
  · exact stdK_n ht
theorem aK2_n (h : getP B ((k : Int) + 1) &&& sqB s1 = 0#64) : aK2 D B k (s1 + 1) = aK2 D B k s1 := by
  unfold aK2 s1L; rw [fK_S, fromL, if_pos h, List.append_nil]
theorem aK2_e (h : ¬ getP B ((k : Int) + 1) &&& sqB s1 = 0#64) : aK2 D B k (s1 + 1) = aK3 D B k s1 64 := by
  unfold aK3 aK2 s1L; rw [fK_S, fromL, if_neg h, List.append_assoc]
theorem aK2_z (h0 : ¬ getP B ((k : Int) + 1) &&& sqB s1 = 0#64) (h : toB D B ((k : Int) + 1) s1 = 0#64) : aK2 D B k (s1 + 1) = aK2 D B k s1 := by
  rw [aK2_e h0, aK3, s2L, fK_nil, List.append_nil]
  intro j _; rw [oneL, if_pos (by rw [h]; simp)]
theorem aK3_n (h : toB D B ((k : Int) + 1) s1 &&& sqB s2 = 0#64) : aK3 D B k s1 (s2 + 1) = aK3 D B k s1 s2 := by
  unfold aK3 s2L; rw [fK_S, oneL, if_pos h, List.append_nil]
theorem aK3_p (h : ¬ toB D B ((k : Int) + 1) s1 &&& sqB s2 = 0#64) (hp : promS ((k : Int) + 1) s2 = true) : aK3 D B k s1 (s2 + 1) = aK4 D B k s1 s2 4 := by
  unfold aK4 aK3 s2L; rw [fK_S, oneL, if_neg h, if_pos hp, List.append_assoc]
theorem aK3_s (h : ¬ toB D B ((k : Int) + 1) s1 &&& sqB s2 = 0#64) (hp : promS ((k : Int) + 1) s2 = false) : aK3 D B k s1 (s2 + 1) = aK3 D B k s1 s2 ++ keepM (nmM D B s1 s2) := by
  unfold aK3 s2L; rw [fK_S, oneL, if_neg h, if_neg (by simp [hp]), List.append_assoc]
theorem aK4_S : aK4 D B k s1 s2 (q + 1) = aK4 D B k s1 s2 q ++ keepM (qrM D B s1 s2 q) := by
  unfold aK4 qrL; rw [fK_S, List.append_assoc]
theorem aK1_le (h : k ≤ 12) : (stdK D B k).length ≤ (stdL D B).length := fK_le _ h
theorem aK2_le (h : k < 12) (ht : D.turn = pCol ((k : Int) + 1)) (h1 : s1 ≤ 64) : (aK2 D B k s1).length ≤ (stdL D B).length := by
  have h2 := aK1_le (D := D) (B := B) (k := k + 1) h
  rw [stdK_e ht] at h2
  refine Nat.le_trans ?_ h2
  have := fK_le (fromL D B ((k : Int) + 1)) h1
  simp only [aK2, s1L, List.length_append]; omega
theorem aK3_le (h : k < 12) (ht : D.turn = pCol ((k : Int) + 1)) (h1 : s1 < 64) (hg : ¬ getP B ((k : Int) + 1) &&& sqB s1 = 0#64) (h2 : s2 ≤ 64) : (aK3 D B k s1 s2).length ≤ (stdL D B).length := by
  have h3 := aK2_le (B := B) h ht (s1 := s1 + 1) h1
  rw [aK2_e hg] at h3
  refine Nat.le_trans ?_ h3
  have := fK_le (oneL D B ((k : Int) + 1) s1) h2
  simp only [aK3, s2L, List.length_append]; omega
theorem aK4_le (h : k < 12) (ht : D.turn = pCol ((k : Int) + 1)) (h1 : s1 < 64) (hg : ¬ getP B ((k : Int) + 1) &&& sqB s1 = 0#64) (h2 : s2 < 64) (ho : ¬ toB D B ((k : Int) + 1) s1 &&& sqB s2 = 0#64) (hp : promS ((k : Int) + 1) s2 = true) (hq : q ≤ 4) : (aK4 D B k s1 s2 q).length ≤ (stdL D B).length := by
  have h3 := aK3_le h ht h1 hg (s2 := s2 + 1) h2
  rw [aK3_p ho hp] at h3
  refine Nat.le_trans ?_ h3
  have := fK_le (fun q => keepM (qrM D B s1 s2 q)) hq
  simp only [aK4, qrL, List.length_append]; omega
theorem promS_y {p : Int} (h : (p = 6 ∧ (s2 : Int) / 8 = 7) ∨ (p = 12 ∧ (s2 : Int) / 8 = 0)) : promS p s2 = true := decide_eq_true h
theorem promS_n {p : Int} (h : ¬ ((p = 6 ∧ (s2 : Int) / 8 = 7) ∨ (p = 12 ∧ (s2 : Int) / 8 = 0))) : promS p s2 = false := decide_eq_false h
theorem pieceAt_pos (hk : k < 12) (hs : s1 < 64) (h : ¬ getP B ((k : Int) + 1) &&& sqB s1 = 0#64) : 1 ≤ pieceAt B (s1 : Int) := by
  have ho : occB (B.f k) s1 = true := by
    have := and_sq (x := getP B ((k : Int) + 1)) (s := (s1 : Int)) (by omega)
    rw [decide_eq_false h, getP_k] at this
    simpa using this.symm
  by_cases hn : ∀ i, i < 12 → occB (B.f i) s1 = false
  · rw [hn k hk] at ho; cases ho
  · have : ∃ i, i < 12 ∧ occB (B.f i) s1 = true := Classical.byContradiction fun h0 => hn fun i hi => by
      cases hc : occB (B.f i) (s1 : Int)
      · rfl
      · exact absurd ⟨i, hi, hc⟩ h0
    obtain ⟨i, hi, hc⟩ := this
    unfold pieceAt
    cases hf : (List.range 12).find? (fun k => occB (B.f k) (s1 : Int)) with
    | none => rw [List.find?_eq_none] at hf; exact absurd hc (hf i (List.mem_range.2 hi))
    | some j => simp; omega
end
end Go.Tb
end
section
namespace Go.Tb
open Go Go.Proofs
set_option maxRecDepth 20000
section
variable {c : Nat → Int} {f t : Nat} {B : Brd} {D : Pd}
def pawnP (c : Nat → Int) (f t : Nat) : Prop :=
  ((t : Int) = f + 8 * upOf (c 64) ∧ c t = 0) ∨
  ((t : Int) = f + 16 * upOf (c 64) ∧ (f : Int) / 8 = 1 + 5 * c 64 ∧ c ((f : Int) + 8 * upOf (c 64)).toNat = 0 ∧ c t = 0) ∨
  ((fdif f t = 1 ∨ fdif f t = -1) ∧ rdif f t = upOf (c 64) ∧ ((c t ≠ 0 ∧ sideOf (c t) ≠ c 64) ∨ (c t = 0 ∧ (t : Int) = c 66)))
theorem stepL_iff (hi : InvC c) (hf : 8 ≤ f ∧ f ≤ 55) (hs : sideOf (c f) = c 64) (ht : t < 64) : (t : Int) ∈ stepL c f ↔ pawnP c f t := by
  have h64 := hi.turn
  have hu : (c 64 = 0 ∧ upOf (c 64) = 1) ∨ (c 64 = 1 ∧ upOf (c 64) = -1) := by unfold upOf; omega
  have hat : ∀ a b : Int, 0 ≤ a → a ≤ 7 → 0 ≤ b → b ≤ 7 → atSq a b = 8 * b + a := fun a b h1 h2 h3 h4 => by unfold atSq; rw [if_neg (by omega)]
  have hin : ∀ a b : Int, 0 ≤ atSq a b → (0 ≤ a ∧ a ≤ 7) ∧ (0 ≤ b ∧ b ≤ 7) ∧ atSq a b = 8 * b + a := fun a b h => by
    unfold atSq at h ⊢; split at h <;> omega
  have e1 : atSq ((f : Int) % 8) ((f : Int) / 8 + upOf (c 64)) = f + 8 * upOf (c 64) := by rw [hat _ _ (by omega) (by omega) (by omega) (by omega)]; omega
  have e2 : (f : Int) / 8 = 1 + 5 * c 64 → atSq ((f : Int) % 8) ((f : Int) / 8 + 2 * upOf (c 64)) = f + 16 * upOf (c 64) := fun h => by rw [hat _ _ (by omega) (by omega) (by omega) (by omega)]; omega
  have hep : (t : Int) = c 66 → (t : Int) / 8 = 5 - 3 * c 64 := fun h => by rcases hi.ep with h2 | ⟨h2, _⟩ <;> omega
  unfold stepL pawnP
  rw [Int.toNat_natCast, hs, List.mem_append]
  have hA : (t : Int) ∈ advL c f (c 64) ↔ ((t : Int) = f + 8 * upOf (c 64) ∧ c t = 0) ∨ ((t : Int) = f + 16 * upOf (c 64) ∧ (f : Int) / 8 = 1 + 5 * c 64 ∧ c ((f : Int) + 8 * upOf (c 64)).toNat = 0 ∧ c t = 0) := by
    unfold advL
    rw [e1]
    by_cases h0 : c ((f : Int) + 8 * upOf (c 64)).toNat = 0
    · rw [if_pos ⟨by omega, h0⟩, List.mem_cons]
      have q1 : ((t : Int) = f + 8 * upOf (c 64)) ↔ ((t : Int) = f + 8 * upOf (c 64) ∧ c t = 0) := ⟨fun h => ⟨h, by rw [← h, Int.toNat_natCast] at h0; exact h0⟩, fun h => h.1⟩
      by_cases h2 : (f : Int) / 8 = 1 + 5 * c 64
      · rw [e2 h2]
        by_cases h3 : c ((f : Int) + 16 * upOf (c 64)).toNat = 0
        · rw [if_pos ⟨h2, h3⟩, List.mem_singleton, ← q1]
          refine or_congr Iff.rfl ⟨fun h => ⟨h, h2, h0, by rw [← h, Int.toNat_natCast] at h3; exact h3⟩, fun h => h.1⟩
        · rw [if_neg (fun h => h3 h.2), ← q1]
          refine or_congr Iff.rfl ⟨fun h => (by cases h), fun h => ?_⟩
          exact absurd (by rw [← h.1, Int.toNat_natCast]; exact h.2.2.2) h3
      · rw [if_neg (fun h => h2 h.1), ← q1]
        exact or_congr Iff.rfl ⟨fun h => (by cases h), fun h => absurd h.2.1 h2⟩
    · rw [if_neg (fun h => h0 h.2)]
      refine ⟨fun h => (by cases h), ?_⟩
      rintro (⟨h1, h2⟩ | ⟨_, _, h2, _⟩)
      · exact absurd (by rw [← h1, Int.toNat_natCast]; exact h2) h0
      · exact absurd h2 h0
  have hT : (t : Int) ∈ takeL c (c 64) (hitL f (c 64) 2) ↔ (fdif f t = 1 ∨ fdif f t = -1) ∧ rdif f t = upOf (c 64) ∧ ((c t ≠ 0 ∧ sideOf (c t) ≠ c 64) ∨ (c t = 0 ∧ (t : Int) = c 66)) := by
    unfold takeL
    rw [List.mem_filter, decide_eq_true_eq]
    have hH : (t : Int) ∈ hitL f (c 64) 2 ↔ (fdif f t = 1 ∨ fdif f t = -1) ∧ rdif f t = upOf (c 64) := by
      have m0 : (t : Int) ∈ hitL f (c 64) 2 ↔ ((t : Int) = hitT f (c 64) 0 ∨ (t : Int) = hitT f (c 64) 1) := by
        simp only [hitL, List.nil_append, List.mem_append]
        constructor
        · rintro (h | h) <;> split at h <;> simp at h
          · exact .inl h
          · exact .inr h
        · rintro (h | h)
          · left; rw [if_pos (by omega)]; simp [h]
          · right; rw [if_pos (by omega)]; simp [h]
      rw [m0]
      unfold hitT fdif rdif
      constructor
      · rintro (h | h)
        · obtain ⟨a, b, d⟩ := hin _ _ (by rw [← h]; omega)
          omega
        · obtain ⟨a, b, d⟩ := hin _ _ (by rw [← h]; omega)
          omega
      · rintro ⟨h1 | h1, h2⟩
        · right; rw [hat _ _ (by omega) (by omega) (by omega) (by omega)]; omega
        · left; rw [hat _ _ (by omega) (by omega) (by omega) (by omega)]; omega
    rw [hH, and_assoc]
    refine and_congr Iff.rfl (and_congr Iff.rfl ?_)
    unfold takeP
    rw [Int.toNat_natCast]
    exact or_congr Iff.rfl ⟨fun h => ⟨h.1, h.2.1⟩, fun h => ⟨h.1, h.2, hep h.2⟩⟩
  rw [hA, hT, or_assoc]
theorem mk_r3 {s : Nat} (hs : s < 64) : occB 280375465082880#64 s = decide (s / 8 = 2) := (by decide +kernel : ∀ s : Fin 64, occB 280375465082880#64 s.val = decide (s.val / 8 = 2)) ⟨s, hs⟩
theorem mk_r6 {s : Nat} (hs : s < 64) : occB 16711680#64 s = decide (s / 8 = 5) := (by decide +kernel : ∀ s : Fin 64, occB 16711680#64 s.val = decide (s.val / 8 = 5)) ⟨s, hs⟩
theorem occ_ep (hi : InvC c) (hD : D.ep = c 66) (ht : t < 64) : occB (if D.ep = -1 then 0#64 else sqB D.ep) t = decide ((t : Int) = c 66) := by
  rw [hD]
  rcases hi.ep with h | ⟨_, h, _⟩
  · rw [if_pos h, occ_zero, decide_eq_false (by omega)]
  · rw [if_neg (by omega)]
    have := occ_sq (s := (c 66).toNat) (t := t) (by omega) ht
    rw [Int.toNat_of_nonneg h.1] at this
    rw [this]; exact decide_eq_decide.2 (by omega)
theorem pawnB_iff (hr : RepB c B) (hi : InvC c) (hT : D.turn = c 64 + 1) (hD : D.ep = c 66) (hf : 8 ≤ f ∧ f ≤ 55) (ht : t < 64) : occB (pawnB D B f) t = true ↔ pawnP c f t := by
  have h64 := hi.turn
  have hb := hi.bd t ht
  have hep := occ_ep (t := t) hi hD ht
  have hsd : 1 ≤ c t → (sideOf (c t) = 0 ∧ c t ≤ 6) ∨ (sideOf (c t) = 1 ∧ 7 ≤ c t) := fun hx => side_b ⟨hx, hb.2⟩
  have hepz : (t : Int) = c 66 → c t = 0 := fun h => by
    rcases hi.ep with h2 | ⟨_, _, h2, _⟩
    · omega
    · rw [← h, Int.toNat_natCast] at h2; exact h2
  have hem : ∀ u : Nat, u < 64 → occB B.e u = decide (c u = 0) := fun u hu => occ_empty hr hi.bd hu
  have hsq : ∀ u : Nat, u < 64 → occB (sqB (f : Int)) u = decide (f = u) := fun u hu => occ_sq (by omega) hu
  unfold pawnB pawnP
  simp only
  rcases (show c 64 = 0 ∨ c 64 = 1 by omega) with h0 | h0
  · have hu : upOf (c 64) = 1 := by rw [h0]; rfl
    rw [if_pos (by omega), hu]
    have e1 := occ_sr (P := fun u => (f = u ∧ u % 8 ≠ 7) ∧ u < 56) 9 ht (x := sqB (f : Int) &&& 18374403900871474942#64 &&& 18446744073709551360#64) fun u hu => by rw [occ_and, occ_and, hsq u hu, mk_notH hu, mk_not8 hu, and_dec, and_dec]
    have e2 := occ_sr (P := fun u => (f = u ∧ u % 8 ≠ 0) ∧ u < 56) 7 ht (x := sqB (f : Int) &&& 9187201950435737471#64 &&& 18446744073709551360#64) fun u hu => by rw [occ_and, occ_and, hsq u hu, mk_notA hu, mk_not8 hu, and_dec, and_dec]
    have e3 : ∀ u : Nat, u < 64 → (occB ((sqB (f : Int) &&& 18446744073709551360#64) >>> 8) u = true ↔ u = f + 8) := fun u hu => by
      rw [occ_sr (P := fun u => f = u ∧ u < 56) 8 hu (x := sqB (f : Int) &&& 18446744073709551360#64) fun u hu => by rw [occ_and, hsq u hu, mk_not8 hu, and_dec]]
      omega
    have e3' : ∀ u : Nat, u < 64 → occB ((sqB (f : Int) &&& 18446744073709551360#64) >>> 8) u = decide (u = f + 8) := fun u hu => by
      rw [Bool.eq_iff_iff, e3 u hu, decide_eq_true_eq]
    have e4 := occ_sr (P := fun u => (u = f + 8 ∧ c u = 0) ∧ u / 8 = 2) 8 ht (x := (sqB (f : Int) &&& 18446744073709551360#64) >>> 8 &&& B.e &&& 280375465082880#64) fun u hu => by rw [occ_and, occ_and, e3' u hu, hem u hu, mk_r3 hu, and_dec, and_dec]
    have ebl : occB B.b t = decide (7 ≤ c t ∧ c t ≤ 12) := by rw [hr.b]; exact occ_black hr ht
    have hz : c ((f : Int) + 8 * 1).toNat = c (f + 8) := by congr 1
    rw [hz]
    simp only [occ_or, occ_and _ (B.b ||| _), Bool.or_eq_true, Bool.and_eq_true, e1, e2, hep, ebl, decide_eq_true_eq]
    rw [occ_and, occ_and, Bool.and_eq_true, Bool.and_eq_true, e3 t ht, e4, hem t ht, decide_eq_true_eq]
    unfold fdif rdif
    constructor
    · rintro (((⟨⟨a1, ⟨a2, a3⟩, a4⟩, a5⟩ | ⟨⟨a1, ⟨a2, a3⟩, a4⟩, a5⟩) | ⟨a1, a2⟩) | ⟨⟨a1, ⟨a2, a3⟩, a4⟩, a5⟩)
      · refine .inr (.inr ⟨by omega, by omega, ?_⟩)
        rcases a5 with a5 | a5
        · left; omega
        · exact .inr ⟨hepz a5, a5⟩
      · refine .inr (.inr ⟨by omega, by omega, ?_⟩)
        rcases a5 with a5 | a5
        · left; omega
        · exact .inr ⟨hepz a5, a5⟩
      · exact .inl ⟨by omega, a2⟩
      · refine .inr (.inl ⟨by omega, by omega, by rw [← a2]; exact a3, a5⟩)
    · rintro (⟨a1, a2⟩ | ⟨a1, a2, a3, a4⟩ | ⟨a1, a2, a3⟩)
      · exact .inl (.inr ⟨by omega, a2⟩)
      · exact .inr ⟨⟨by omega, ⟨by omega, by rw [show t - 8 = f + 8 by omega]; exact a3⟩, by omega⟩, a4⟩
      · have a5 : (7 ≤ c t ∧ c t ≤ 12) ∨ (t : Int) = c 66 := by
          rcases a3 with a3 | a3
          · left; omega
          · exact .inr a3.2
        rcases a1 with a1 | a1
        · exact .inl (.inl (.inl ⟨⟨by omega, ⟨by omega, by omega⟩, by omega⟩, a5⟩))
        · exact .inl (.inl (.inr ⟨⟨by omega, ⟨by omega, by omega⟩, by omega⟩, a5⟩))
  · have hu : upOf (c 64) = -1 := by rw [h0]; rfl
    rw [if_neg (by omega), hu]
    have e1 := occ_sl (P := fun u => (f = u ∧ u % 8 ≠ 7) ∧ 8 ≤ u) 7 ht (x := sqB (f : Int) &&& 18374403900871474942#64 &&& 72057594037927935#64) fun u hu => by rw [occ_and, occ_and, hsq u hu, mk_notH hu, mk_not1 hu, and_dec, and_dec]
    have e2 := occ_sl (P := fun u => (f = u ∧ u % 8 ≠ 0) ∧ 8 ≤ u) 9 ht (x := sqB (f : Int) &&& 9187201950435737471#64 &&& 72057594037927935#64) fun u hu => by rw [occ_and, occ_and, hsq u hu, mk_notA hu, mk_not1 hu, and_dec, and_dec]
    have e3 : ∀ u : Nat, u < 64 → (occB ((sqB (f : Int) &&& 72057594037927935#64) <<< 8) u = true ↔ u + 8 = f) := fun u hu => by
      rw [occ_sl (P := fun u => f = u ∧ 8 ≤ u) 8 hu (x := sqB (f : Int) &&& 72057594037927935#64) fun u hu => by rw [occ_and, hsq u hu, mk_not1 hu, and_dec]]
      omega
    have e3' : ∀ u : Nat, u < 64 → occB ((sqB (f : Int) &&& 72057594037927935#64) <<< 8) u = decide (u + 8 = f) := fun u hu => by
      rw [Bool.eq_iff_iff, e3 u hu, decide_eq_true_eq]
    have e4 := occ_sl (P := fun u => (u + 8 = f ∧ c u = 0) ∧ u / 8 = 5) 8 ht (x := (sqB (f : Int) &&& 72057594037927935#64) <<< 8 &&& B.e &&& 16711680#64) fun u hu => by rw [occ_and, occ_and, e3' u hu, hem u hu, mk_r6 hu, and_dec, and_dec]
    have ewh : occB B.w t = decide (1 ≤ c t ∧ c t ≤ 6) := by rw [hr.w]; exact occ_white hr ht
    have hz : c ((f : Int) + 8 * -1).toNat = c (f - 8) := by congr 1; omega
    rw [hz]
    simp only [occ_or, occ_and _ (B.w ||| _), Bool.or_eq_true, Bool.and_eq_true, e1, e2, hep, ewh, decide_eq_true_eq]
    rw [occ_and, occ_and, Bool.and_eq_true, Bool.and_eq_true, e3 t ht, e4, hem t ht, decide_eq_true_eq]
    unfold fdif rdif
    constructor
    · rintro (((⟨⟨a1, ⟨a2, a3⟩, a4⟩, a5⟩ | ⟨⟨a1, ⟨a2, a3⟩, a4⟩, a5⟩) | ⟨a1, a2⟩) | ⟨⟨a1, ⟨a2, a3⟩, a4⟩, a5⟩)
      · refine .inr (.inr ⟨by omega, by omega, ?_⟩)
        rcases a5 with a5 | a5
        · left; omega
        · exact .inr ⟨hepz a5, a5⟩
      · refine .inr (.inr ⟨by omega, by omega, ?_⟩)
        rcases a5 with a5 | a5
        · left; omega
        · exact .inr ⟨hepz a5, a5⟩
      · exact .inl ⟨by omega, a2⟩
      · refine .inr (.inl ⟨by omega, by omega, by rw [show f - 8 = t + 8 by omega]; exact a3, a5⟩)
    · rintro (⟨a1, a2⟩ | ⟨a1, a2, a3, a4⟩ | ⟨a1, a2, a3⟩)
      · exact .inl (.inr ⟨by omega, a2⟩)
      · exact .inr ⟨⟨by omega, ⟨by omega, by rw [show t + 8 = f - 8 by omega]; exact a3⟩, by omega⟩, a4⟩
      · have a5 : (1 ≤ c t ∧ c t ≤ 6) ∨ (t : Int) = c 66 := by
          rcases a3 with a3 | a3
          · left; omega
          · exact .inr a3.2
        rcases a1 with a1 | a1
        · exact .inl (.inl (.inl ⟨⟨by omega, ⟨by omega, by omega⟩, by omega⟩, a5⟩))
        · exact .inl (.inl (.inr ⟨⟨by omega, ⟨by omega, by omega⟩, by omega⟩, a5⟩))
end
end Go.Tb
end
section
namespace Go.Tb
open Go Go.Proofs
set_option maxRecDepth 20000
section
variable {c : Nat → Int} {f t : Nat} {B : Brd} {D : Pd} {p : Int}
def ownS (c : Nat → Int) (k : Nat) : Prop := c k ≠ 0 ∧ sideOf (c k) = c 64
def tgtP (c : Nat → Int) (f t : Nat) : Prop := if kindOf (c f) = 6 then pawnP c f t else reachP c f t
theorem kind_bd {n : Int} (h : 1 ≤ n ∧ n ≤ 12) : 1 ≤ kindOf n ∧ kindOf n ≤ 6 := by unfold kindOf; split <;> omega
theorem own_bd (hi : InvC c) (hf : f < 64) (ho : ownS c f) : 1 ≤ c f ∧ c f ≤ 12 := by
  have := hi.bd f hf; have := ho.1; omega
theorem tgt_iff (hi : InvC c) (hf : f < 64) (ho : ownS c f) (ht : t < 64) : (t : Int) ∈ tgtL c f ↔ tgtP c f t := by
  have hk := kind_bd (own_bd hi hf ho)
  unfold tgtL tgtP
  rw [Int.toNat_natCast]
  by_cases h6 : kindOf (c f) = 6
  · rw [if_pos h6, if_pos h6]
    have := hi.pawns f hf h6
    exact stepL_iff hi (by omega) ho.2 ht
  · rw [if_neg h6, if_neg h6]
    exact reachL_iff hf ht (by omega)
theorem occ_allow (hr : RepB c B) (hi : InvC c) (hT : D.turn = c 64 + 1) (ht : t < 64) : occB (allowB D B) t = true ↔ ¬ ownS c t := by
  have hb := hi.bd t ht
  have h64 := hi.turn
  have hs : 1 ≤ c t → (sideOf (c t) = 0 ∧ c t ≤ 6) ∨ (sideOf (c t) = 1 ∧ 7 ≤ c t) := fun h => side_b ⟨h, hb.2⟩
  unfold allowB ownS
  by_cases h2 : D.turn = 2
  · rw [if_pos h2, occ_not _ ht, hr.b, occ_black hr ht]
    simp only [Bool.not_eq_true', decide_eq_false_iff_not]
    omega
  · rw [if_neg h2, occ_not _ ht, hr.w, occ_white hr ht]
    simp only [Bool.not_eq_true', decide_eq_false_iff_not]
    omega
theorem toB_iff (hr : RepB c B) (hi : InvC c) (hT : D.turn = c 64 + 1) (hD : D.ep = c 66) (hf : f < 64) (ho : ownS c f) (ht : t < 64) : occB (toB D B (c f) f) t = true ↔ tgtP c f t ∧ ¬ ownS c t := by
  have hbd := own_bd hi hf ho
  have hk := kind_bd hbd
  unfold toB tgtP
  rw [occ_and, Bool.and_eq_true, occ_allow hr hi hT ht, kind_typ (by omega)]
  by_cases h6 : kindOf (c f) = 6
  · rw [if_pos h6]
    have := hi.pawns f hf h6
    have e : pmB D B (kindOf (c f)) f = pawnB D B f := by unfold pmB; simp [h6]
    rw [e, pawnB_iff hr hi hT hD (by omega) ht]
  · rw [if_neg h6, pmB_iff hr hi.bd hf ht (by omega)]
theorem tgt_att (hi : InvC c) (hf : f < 64) (ho : ownS c f) (h : tgtP c f t) (hc : c t ≠ 0) : attB c t (c 64) = true := by
  have hk := kind_bd (own_bd hi hf ho)
  refine attB_iff.2 ⟨f, hf, ho.1, ho.2, ?_⟩
  unfold tgtP at h
  by_cases h6 : kindOf (c f) = 6
  · rw [if_pos h6] at h
    rcases h with ⟨_, h⟩ | ⟨_, _, _, h⟩ | ⟨h1, h2, h3⟩
    · exact absurd h hc
    · exact absurd h hc
    · refine ⟨?_, by rw [Int.toNat_natCast]; exact ho.1, ?_⟩
      · unfold fdif at h1; omega
      · rw [Int.toNat_natCast]; simp only [h6, Int.reduceEq, ↓reduceIte, ho.2]
        exact ⟨sq1.2 h1, h2⟩
  · rw [if_neg h6] at h
    exact reach_hits ho.1 (by omega) h
theorem mvB_of (hi : InvC c) (hf : f < 64) (ht : t < 64) (ho : ownS c f) (h : tgtP c f t) (hn : ¬ ownS c t) : MvB c f t := by
  have h64 := hi.turn
  refine ⟨hf, ht, ?_, ho, ?_, fun e => ?_⟩
  · unfold tgtP at h
    split at h
    · rintro rfl
      have hu : upOf (c 64) = 1 ∨ upOf (c 64) = -1 := by unfold upOf; omega
      rcases h with ⟨h, _⟩ | ⟨h, _⟩ | ⟨h, _⟩
      · omega
      · omega
      · unfold fdif at h; omega
    · exact h.1
  · by_cases h0 : c t = 0
    · exact .inl h0
    · exact .inr fun e => hn ⟨h0, e⟩
  · obtain ⟨k, k1, k2, k3, k4⟩ := hi.kingAt (b := 1 - c 64) (by omega)
    have := k4 t ht e
    subst this
    have h1 := tgt_att hi hf ho h (by omega)
    have h2 := hi.safe
    rw [k3, h1] at h2; cases h2
def psP (c : Nat → Int) (f t : Nat) : Prop := kindOf (c f) = 6 ∧ (f : Int) % 8 ≠ (t : Int) % 8 ∧ c t = 0
theorem mvN_of (hi : InvC c) (hf : f < 64) (ht : t < 64) (ho : ownS c f) (h : tgtP c f t) (hn : ¬ ownS c t) (hp : p = 0 ∨ ((2 ≤ p ∧ p ≤ 5) ∧ kindOf (c f) = 6)) (hps : ¬ psP c f t) : MvN2 c f t p := by
  have h64 := hi.turn
  have hB := mvB_of hi hf ht ho h hn
  have hK : kindOf (c f) = 1 → (-1 ≤ fdif f t ∧ fdif f t ≤ 1) ∧ (-1 ≤ rdif f t ∧ rdif f t ≤ 1) := fun hk => by
    unfold tgtP at h
    rw [if_neg (by omega)] at h
    have := h.2
    rw [if_pos hk] at this
    exact ⟨sqle1 this.1, sqle1 this.2⟩
  refine ⟨⟨hB, fun htk => ?_, fun hc => ?_, hp⟩, fun h6 hep h0 => ?_, fun hk hh => ?_⟩
  · unfold takesIs at htk
    unfold takesSq
    rw [Int.toNat_natCast, Int.toNat_natCast] at *
    by_cases h0 : c t = 0
    · rw [if_neg (by simp [h0])] at htk
      by_cases h2 : kindOf (c f) = 6 ∧ (f : Int) % 8 ≠ (t : Int) % 8
      · exact absurd ⟨h2.1, h2.2, h0⟩ hps
      · rw [if_neg h2] at htk; cases htk
    · rw [if_pos h0]
  · have hk := hc.1
    rw [Int.toNat_natCast] at hk
    have := hK hk
    have h2 := hc.2
    unfold fdif rdif at this
    omega
  · unfold tgtP at h
    rw [if_pos h6] at h
    have hu : (c 64 = 0 ∧ upOf (c 64) = 1) ∨ (c 64 = 1 ∧ upOf (c 64) = -1) := by unfold upOf; omega
    rcases hi.ep with he | ⟨he1, he2, he3, he4⟩
    · omega
    · rcases h with ⟨h, _⟩ | ⟨h, h', _⟩ | ⟨h, _⟩
      · have e : c 66 - 8 * upOf (c 64) = f := by omega
        rw [e, Int.toNat_natCast] at he4
        have := side_b (own_bd hi hf ho)
        have := ho.2
        omega
      · omega
      · refine hps ⟨h6, ?_, h0⟩
        unfold fdif at h; omega
  · have := hK hk
    unfold fdif rdif at this
    omega
theorem mvE_of (hi : InvC c) (hf : f < 64) (ht : t < 64) (ho : ownS c f) (h : tgtP c f t) (hn : ¬ ownS c t) (hps : psP c f t) : ∃ e, MvE c f t e := by
  have h64 := hi.turn
  have hB := mvB_of hi hf ht ho h hn
  obtain ⟨h6, hfl, h0⟩ := hps
  unfold tgtP at h
  rw [if_pos h6] at h
  have hu : (c 64 = 0 ∧ upOf (c 64) = 1) ∨ (c 64 = 1 ∧ upOf (c 64) = -1) := by unfold upOf; omega
  have hfi : 8 ≤ (f : Int) ∧ (f : Int) ≤ 55 := hi.pawns f hf h6
  rcases h with ⟨h, _⟩ | ⟨h, h', _⟩ | ⟨h1, h2, h3⟩
  · omega
  · omega
  · have he : (t : Int) = c 66 := by
      rcases h3 with h3 | h3
      · exact absurd h0 h3.1
      · exact h3.2
    rcases hi.ep with e1 | ⟨e1, e2, e3, e4⟩
    · omega
    · unfold rdif at h2
      refine ⟨((t : Int) - 8 * upOf (c 64)).toNat, hB, h6, h0, he, hfl, by omega, by omega, by omega, ?_⟩
      rw [he]; exact e4
end
end Go.Tb
end
