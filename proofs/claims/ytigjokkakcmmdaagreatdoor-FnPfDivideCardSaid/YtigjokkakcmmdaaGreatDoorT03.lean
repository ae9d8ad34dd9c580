/-
  A part of the proof (my own): of the texts that the claim's last text rests on: parts More.
-/
import Derived.Deep.AppendSrc
import Derived.Laws.BytesArg
import Derived.Test.YtigjokkakcmmdaaGreatDoorT02
set_option linter.unusedSimpArgs false
set_option linter.unusedVariables false
section
namespace Go.Tb
open Go
def fillL (pl : Nat → Option (Nat × Nat)) : List Value → List (Nat × Value) → Option (List Value)
  | cells, [] => some cells
  | cells, (i, v) :: rest => match pl i with
    | some (off, size) => if (cellsL v).length = size ∧ off + size ≤ cells.length then fillL pl (spl cells off (cellsL v)) rest else none
    | none => none
def tPl (P : Program) (t : TypeId) : Option (List (Nat × Nat)) := match P.underlying t with
  | some (.struct fs) => fs.toList.mapM fun f => (tSz P f.type).map fun p => (f.offset, p.2)
  | _ => none
def tArr (P : Program) (t : TypeId) : Option Nat := match P.underlying t with
  | some (.array _ e) => (tSz P e).map (·.2)
  | _ => none
def buildV (P : Program) (t : TypeId) (parts : List (Nat × Value)) : Option Value := match tZero P t with
  | some zc => match tArr P t with
    | some s => (fillL (fun i => some (i * s, s)) zc parts).map fun cs => .agg cs.toArray
    | none => match tPl P t with
      | some pl => (fillL (fun i => pl[i]?) zc parts).map fun cs => .agg cs.toArray
      | none => none
  | none => none
def zrep (n : Nat) (zc : List Value) : List Value := (List.replicate n zc).flatten
def tSl (P : Program) (t : TypeId) : Option (TypeId × Nat × Nat) := match P.underlying t with
  | some (.slice e) => match P.info? e with
    | some i => some (e, i.size, i.bytes)
    | none => none
  | _ => none
def bsV (P : Program) (t : TypeId) (n : Nat) (parts : List (Nat × Value)) : Option (TypeId × List Value) := match tSl P t with
  | some (e, s, _) => match tZero P e with
    | some zc => if n * s ≤ 16777216 ∧ zc.length = s ∧ s ≠ 0 then (fillL (fun i => some (i * s, s)) (zrep n zc) parts).map fun cs => (e, cs) else none
    | none => none
  | none => none
section
variable {P : Program} {ng N : Nat} {D : List Deferred} {ρ : Nat → Nat} {L : List AO} {w : World} {fr : Fr} {a : Act}
theorem foldl_spl : ∀ (vs : List Value) (c : List Value) (o k : Nat), o + k + vs.length ≤ c.length →
    ((vs.zipIdx k).toArray.foldl (fun (cs : Array Value) (p : Value × Nat) => cs.setIfInBounds (o + p.2) p.1) c.toArray) = (c.take (o + k) ++ vs ++ c.drop (o + k + vs.length)).toArray
  | [], c, o, k, _ => by simp
  | v :: vs, c, o, k, h => by
    simp only [List.length_cons] at h
    have ih := foldl_spl vs (c.set (o + k) v) o (k + 1) (by simp; omega)
    rw [show o + (k + 1) = o + k + 1 by omega, splice_step (by omega)] at ih
    simp only [List.zipIdx_cons, List.size_toArray, List.foldl_toArray', List.foldl_cons, List.setIfInBounds_toArray] at ih ⊢
    rw [ih]; simp
theorem fill_spec (pl : Nat → Option (Nat × Nat)) : ∀ (parts : List (Nat × Value)) (c cs : List Value), fillL pl c parts = some cs →
    Instr.fill pl (c.map (rl ρ)).toArray (parts.map fun p => (p.1, rl ρ p.2)) = some (cs.map (rl ρ)).toArray ∧ (∀ n, (∀ v ∈ c, WF n v) → (∀ p ∈ parts, WF n p.2) → ∀ v ∈ cs, WF n v)
  | [], c, cs, h => by
    simp only [fillL, Option.some.injEq] at h; subst h
    exact ⟨rfl, fun n h _ => h⟩
  | (i, v) :: rest, c, cs, h => by
    simp only [fillL] at h
    split at h
    · rename_i off size hp
      split at h
      · rename_i hc
        obtain ⟨ih, iw⟩ := fill_spec pl rest _ cs h
        have hsz : (rl ρ v).cells.size = size := by rw [← Array.length_toList, cells_rl]; simp [hc.1]
        constructor
        · simp only [List.map_cons, Instr.fill, hp, hsz, ne_eq, not_true_eq_false, decide_false, Bool.false_or]
          rw [if_neg (by simp; omega)]
          have hf := foldl_spl ((cellsL v).map (rl ρ)) (c.map (rl ρ)) off 0 (by simp; omega)
          have hz : (rl ρ v).cells.zipIdx = (((cellsL v).map (rl ρ)).zipIdx 0).toArray := by
            apply Array.toList_inj.1
            rw [Array.toList_zipIdx, cells_rl]
          rw [hz, hf]
          have hs : spl (c.map (rl ρ)) off ((cellsL v).map (rl ρ)) = (spl c off (cellsL v)).map (rl ρ) := (spl_map _ (by omega)).symm
          rw [spl_eq (by simp; omega)] at hs
          simp only [Nat.add_zero] at hs ⊢
          rw [hs]; exact ih
        · intro n h1 h2
          refine iw n (fun u hu => ?_) (fun p hp => h2 p (List.mem_cons_of_mem _ hp))
          rcases mem_spl hu with hu | hu
          · exact h1 u hu
          · exact WF_cells (h2 _ List.mem_cons_self) u hu
      · cases h
    · cases h
theorem tZero_spec {t : TypeId} {cs : List Value} (h : tZero P t = some cs) : ∃ i z, P.info? t = some i ∧ i.zero = some z ∧ z.cells.toList = cs ∧ cs.all kon = true ∧ cs.length = i.size := by
  unfold tZero at h
  split at h
  · rename_i i hi
    split at h
    · rename_i z hz
      split at h
      · rename_i hc
        simp only [Option.some.injEq] at h
        simp only [Bool.and_eq_true, beq_iff_eq] at hc
        exact ⟨i, z, hi, hz, h, by rw [← h]; exact hc.1, by rw [← h, Array.length_toList]; exact hc.2⟩
      · cases h
    · cases h
  · cases h
theorem kon_map {cs : List Value} (h : cs.all kon = true) : cs.map (rl ρ) = cs := by
  conv => rhs; rw [← List.map_id cs]
  exact List.map_congr_left fun v hv => by simp [kon_rl (List.all_eq_true.1 h v hv)]
theorem kon_wf {cs : List Value} (h : cs.all kon = true) (n : Nat) : ∀ v ∈ cs, WF n v := fun v hv => kon_WF (List.all_eq_true.1 h v hv) n
theorem run_zero {t : TypeId} {i : TypeInfo} {z : Value} (hi : P.info? t = some i) (hz : i.zero = some z) (w : World) : (zeroValue t).run P w = .ok z w := by
  simp [zeroValue, typeInfo, hi, hz]
theorem buildV_sound {t : TypeId} {parts : List (Nat × Value)} {v : Value} (h : buildV P t parts = some v) (w : World) :
    (Instr.build t (parts.map fun p => (p.1, rl ρ p.2)).toArray).run P w = .ok (rl ρ v) w ∧ ∀ n, (∀ p ∈ parts, WF n p.2) → WF n v := by
  unfold buildV at h
  split at h
  · rename_i zc hzc
    obtain ⟨i, z, hi, hz, rfl, hk, hl⟩ := tZero_spec hzc
    have hrun := run_zero hi hz w
    have hzm : (z.cells.toList.map (rl ρ)).toArray = z.cells := by rw [kon_map hk]
    split at h
    · rename_i s hs
      unfold tArr at hs
      split at hs
      · rename_i n e hu
        cases hse : tSz P e with
        | none => simp [hse] at hs
        | some p =>
          obtain ⟨g, s'⟩ := p
          simp [hse] at hs; subst hs
          cases hf : fillL (fun i => some (i * s', s')) z.cells.toList parts with
          | none => simp [hf] at h
          | some cs =>
            simp [hf] at h; subst h
            obtain ⟨h1, h2⟩ := fill_spec (ρ := ρ) _ parts _ cs hf
            rw [hzm] at h1
            refine ⟨?_, fun n hn => WF_agg.2 (h2 n (kon_wf hk n) hn)⟩
            simp [Instr.build, hrun, run_underlying hu, run_sizeOf hse, h1]
      · cases hs
    · rename_i hs
      split at h
      · rename_i pl hpl
        unfold tPl at hpl
        split at hpl
        · rename_i fs hu
          cases hf : fillL (fun i => pl[i]?) z.cells.toList parts with
          | none => simp [hf] at h
          | some cs =>
            simp [hf] at h; subst h
            obtain ⟨h1, h2⟩ := fill_spec (ρ := ρ) _ parts _ cs hf
            rw [hzm] at h1
            refine ⟨?_, fun n hn => WF_agg.2 (h2 n (kon_wf hk n) hn)⟩
            have hm : (fs.mapM fun f => do pure (f.offset, ← sizeOf f.type) : Sem (Array (Nat × Nat))).run P w = .ok pl.toArray w := by
              rw [← Array.toArray_toList (xs := fs), List.mapM_toArray]
              have key : ∀ (l : List Field) (pl : List (Nat × Nat)), (l.mapM fun f => (tSz P f.type).map fun p => (f.offset, p.2)) = some pl → (l.mapM fun f => do pure (f.offset, ← sizeOf f.type) : Sem (List (Nat × Nat))).run P w = .ok pl w := by
                intro l
                induction l with
                | nil => intro pl h; simp at h; subst h; simp
                | cons f l ih =>
                  intro pl h
                  rw [List.mapM_cons] at h
                  cases hz : tSz P f.type with
                  | none => simp [hz] at h
                  | some p =>
                    obtain ⟨g, s⟩ := p
                    cases hr : l.mapM fun f => (tSz P f.type).map fun p => (f.offset, p.2) with
                    | none => simp [hz, hr] at h
                    | some r =>
                      simp [hz, hr] at h; subst h
                      rw [List.mapM_cons]
                      have := ih r hr
                      simp only [Sem.run_bind, run_sizeOf hz, Result.andThen_ok, Sem.run_pure, this]
              have := key fs.toList pl hpl
              simp only [map_eq_pure_bind, Sem.run_bind, this, Result.andThen_ok, Sem.run_pure]
            have h1' : Instr.fill (fun x => pl.toArray[x]?) z.cells (parts.map fun p => (p.1, rl ρ p.2)) = some (cs.map (rl ρ)).toArray := by simpa using h1
            simp only [Instr.build, Sem.run_bind, hrun, Result.andThen_ok, run_underlying hu, hm, h1', Sem.run_pure]
            simp
        · cases hpl
      · cases h
  · cases h
theorem range_zrep {zc : List Value} {s : Nat} (hz : zc.length = s) : ∀ n, (List.range (n * s)).map (fun i => zc.toArray[i % zc.toArray.size]!) = zrep n zc
  | 0 => by simp [zrep]
  | n + 1 => by
    have ih := range_zrep hz n
    have h1 : zrep (n + 1) zc = zrep n zc ++ zc := by
      simp only [zrep, List.replicate_succ', List.flatten_append, List.flatten_cons, List.flatten_nil, List.append_nil]
    rw [show (n + 1) * s = n * s + s by rw [Nat.succ_mul], List.range_add, List.map_append, ih, h1]
    congr 1
    rw [List.map_map]
    apply List.ext_getElem?
    intro i
    by_cases hi : i < s
    · have hi' : i < zc.length := by omega
      simp only [List.getElem?_map, List.getElem?_range hi, Option.map_some, Function.comp, List.size_toArray, hz]
      rw [show (n * s + i) % s = i by rw [Nat.mul_comm, Nat.mul_add_mod]; exact Nat.mod_eq_of_lt hi]
      simp [hi']
    · have hi' : ¬ i < zc.length := by omega
      simp [hi, hi']
theorem arr_zrep {zc : List Value} {s : Nat} (hz : zc.length = s) (n : Nat) : (Array.range (n * s)).map (fun i => zc.toArray[i % zc.toArray.size]!) = (zrep n zc).toArray := by
  rw [← range_zrep hz n]
  apply Array.toList_inj.1
  simp
theorem zrep_kon {n : Nat} {zc : List Value} (h : zc.all kon = true) : (zrep n zc).all kon = true := by
  rw [List.all_eq_true] at h ⊢
  intro v hv
  simp only [zrep, List.mem_flatten, List.mem_replicate] at hv
  obtain ⟨l, ⟨_, rfl⟩, hv⟩ := hv
  exact h v hv
theorem tSl_spec {t e : TypeId} {s b : Nat} (h : tSl P t = some (e, s, b)) : ∃ i, P.underlying t = some (.slice e) ∧ P.info? e = some i ∧ i.size = s ∧ i.bytes = b := by
  unfold tSl at h
  split at h
  · rename_i e' hu
    split at h
    · rename_i i hi
      simp only [Option.some.injEq, Prod.mk.injEq] at h
      obtain ⟨rfl, rfl, rfl⟩ := h
      exact ⟨i, hu, hi, rfl, rfl⟩
    · cases h
  · cases h
theorem run_newRow (e : TypeId) (c : Array Value) (w : World) : (newRow e c).run P w = .ok ⟨w.heap.size, 0, none⟩ (pushBlk w (.cells c e (0, 0))) := by
  simp [newRow, newObj, Sem.run, pushBlk]
theorem bsV_sound {t e : TypeId} {n : Nat} {parts : List (Nat × Value)} {cs : List Value} (h : bsV P t n parts = some (e, cs)) (w : World) :
    (Instr.buildSlice t n (parts.map fun p => (p.1, rl ρ p.2)).toArray).run P w = .ok (.slice (some ⟨w.heap.size, 0, none⟩) n n) (pushBlk w (.cells (cs.map (rl ρ)).toArray e (0, 0))) ∧ ∀ m, (∀ p ∈ parts, WF m p.2) → ∀ v ∈ cs, WF m v := by
  unfold bsV at h
  split at h
  · rename_i e' s b hsl
    obtain ⟨i, hu, hi, hsz, hb⟩ := tSl_spec hsl
    split at h
    · rename_i zc hzc
      obtain ⟨i', z, hi', hz, hzl, hk, hl⟩ := tZero_spec hzc
      split at h
      · rename_i hcond
        obtain ⟨c1, c2, c3⟩ := hcond
        cases hf : fillL (fun i => some (i * s, s)) (zrep n zc) parts with
        | none => simp [hf] at h
        | some cs' =>
          simp [hf] at h
          obtain ⟨rfl, rfl⟩ := h
          obtain ⟨h1, h2⟩ := fill_spec (ρ := ρ) _ parts _ _ hf
          rw [kon_map (zrep_kon hk)] at h1
          refine ⟨?_, fun m hm => h2 m (kon_wf (zrep_kon hk) m) hm⟩
          have hse : (sizeOf e').run P w = .ok s w := by simp [sizeOf, typeInfo, hi, hsz]
          have hzc : z.cells = zc.toArray := by rw [← hzl]
          simp only [Instr.buildSlice, Sem.run_bind, run_underlying hu, Result.andThen_ok, hse]
          rw [if_neg (by omega)]
          by_cases h0 : n * s = 0
          · have hn : n = 0 := by rcases Nat.mul_eq_zero.1 h0 with h | h; exact h; exact absurd h c3
            subst hn
            have h1' : Instr.fill (fun i => some (i * s, s)) #[] (parts.map fun p => (p.1, rl ρ p.2)) = some (cs'.map (rl ρ)).toArray := by simpa [zrep] using h1
            rw [if_pos h0]
            simp only [Sem.run_bind, Sem.run_pure, Result.andThen_ok, Nat.zero_mul, show Array.range 0 = #[] from rfl, Array.map_empty, h1', run_newRow]
          · rw [if_neg h0]
            simp only [Sem.run_bind, Sem.run_pure, Result.andThen_ok, run_zero hi' hz, hzc, arr_zrep c2 n, h1, run_newRow]
      · cases h
    · cases h
  · cases h
def msV (P : Program) (t : TypeId) (l c : Value) : Option (TypeId × Nat × Nat × List Value) := match l, c with
  | .int .i64 l, .int .i64 c => match tSl P t with
    | some (e, s, b) => match tZero P e with
      | some zc => if 0 ≤ l ∧ l ≤ c ∧ (b : Int) * c ≤ 281474976710656 ∧ c ≤ 9223372036854775807 ∧ zc.length = s ∧ s ≠ 0 then some (e, l.toNat, c.toNat, zrep c.toNat zc) else none
      | none => none
    | none => none
  | _, _ => none
theorem run_askRoom (n : Nat) (w : World) : (askRoom n).run P w = .ok () w := by
  unfold askRoom; split <;> rfl
theorem i64_id {n : Int} (h0 : 0 ≤ n) (h1 : n ≤ 9223372036854775807) : IntKind.i64.wrap n = n := by
  simp only [IntKind.wrap, IntKind.bits, IntKind.signed]; simp; split <;> omega
theorem msV_sound {t e : TypeId} {l c : Value} {m k : Nat} {cs : List Value} (h : msV P t l c = some (e, m, k, cs)) (w : World) :
    (Instr.makeSlice t (rl ρ l) (rl ρ c)).run P w = .ok (.slice (some ⟨w.heap.size, 0, none⟩) m k) (pushBlk w (.cells (cs.map (rl ρ)).toArray e (0, 0))) ∧ ∀ n, ∀ v ∈ cs, WF n v := by
  unfold msV at h
  split at h
  · rename_i l c
    split at h
    · rename_i e' s b hsl
      obtain ⟨i, hu, hi, hsz, hb⟩ := tSl_spec hsl
      split at h
      · rename_i zc hzc
        obtain ⟨i', z, hi', hz, hzl, hk, hl⟩ := tZero_spec hzc
        split at h
        · rename_i hcond
          obtain ⟨c1, c2, c3, c4, c5, c6⟩ := hcond
          simp only [Option.some.injEq, Prod.mk.injEq] at h
          obtain ⟨rfl, rfl, rfl, rfl⟩ := h
          refine ⟨?_, fun n => kon_wf (zrep_kon hk) n⟩
          rw [kon_map (zrep_kon hk)]
          have hti : (typeInfo e').run P w = .ok i w := by simp [typeInfo, hi]
          have hse : (sizeOf e').run P w = .ok s w := by simp [sizeOf, typeInfo, hi, hsz]
          have hb' : i.bytes = b := hb
          simp only [rl_int, Instr.makeSlice, Sem.run_bind, run_underlying hu, Result.andThen_ok, asInt, asIntOf, Sem.run_pure, hti, hb', i64_id (show 0 ≤ l from c1) (by omega), i64_id (show 0 ≤ c by omega) c4]
          have hno : (decide (c < 0) || decide ((b : Int) * c > 2 ^ 48) || decide (l < 0) || decide (l > c)) = false := by
            simp; omega
          simp only [hno, Bool.false_eq_true, if_false, Sem.run_bind, run_askRoom, Result.andThen_ok, hse]
          have hzc : z.cells = zc.toArray := by rw [← hzl]
          by_cases h0 : c.toNat * s = 0
          · have hn : c.toNat = 0 := by rcases Nat.mul_eq_zero.1 h0 with h | h; exact h; exact absurd h c6
            rw [if_pos h0]
            simp only [Sem.run_bind, Sem.run_pure, Result.andThen_ok, hn, Nat.zero_mul, show Array.range 0 = #[] from rfl, Array.map_empty, run_newRow, zrep, List.replicate_zero, List.flatten_nil]
          · rw [if_neg h0]
            simp only [Sem.run_bind, Sem.run_pure, Result.andThen_ok, run_zero hi' hz, hzc, arr_zrep c5, run_newRow]
        · cases h
      · cases h
    · cases h
  · cases h
def isSl (P : Program) (t : TypeId) : Bool := match P.underlying t with
  | some (.slice _) => true
  | _ => false
def srcM (P : Program) (M : List AO) (sz : Nat) (tx : TypeId) (x : Value) : Option (Nat × List Value) := match x with
  | .slice (some ⟨b, o, none⟩) n _ => if isSl P tx then (rdS M b o (n * sz)).map fun cs => (n, cs) else none
  | .slice none 0 _ => if isSl P tx then some (0, []) else none
  | .string s => if sz = 1 ∧ tStr P tx = true then some (s.size, byteCells s) else none
  | _ => none
def oldM (M : List AO) (base : Option Addr) (n : Nat) : Option (List Value) := match base with
  | some ⟨b, o, none⟩ => rdS M b o n
  | none => if n = 0 then some [] else none
  | _ => none
def putM (M : List AO) (base : Option Addr) (n : Nat) (news : List Value) : Option (List AO) := match base with
  | some ⟨b, o, none⟩ => match M[b]? with
    | some (.cells c T) => if o + n + news.length ≤ c.length then some (M.set b (.cells (spl c (o + n) news) T)) else none
    | _ => none
  | none => if news = [] then some M else none
  | _ => none
def AppM (P : Program) (M : List AO) (t tx : TypeId) (sv xv : Value) (K : Value → List AO → Prop) : Prop := match sv with
  | .slice base n c => ∃ e sz b zc m news, tSl P t = some (e, sz, b) ∧ tZero P e = some zc ∧ srcM P M sz tx xv = some (m, news) ∧ zc.length = sz ∧ news.all one = true ∧
      ((n + m ≤ c ∧ ∃ M', putM M base (n * sz) news = some M' ∧ K (.slice base (n + m) c) M') ∨
       (c < n + m ∧ (n + m) * b ≤ 140737488355328 ∧ n + m ≤ 9223372036854775807 ∧ ∃ olds, oldM M base (n * sz) = some olds ∧ ∀ c', n + m ≤ c' → K (.slice (some ⟨M.length, 0, none⟩) (n + m) c') (M ++ [.cells (olds ++ news ++ zrep (c' - (n + m)) zc) e])))
  | _ => False
theorem isSl_spec {t : TypeId} (h : isSl P t = true) : ∃ e, P.underlying t = some (.slice e) := by
  unfold isSl at h
  split at h
  · exact ⟨_, by assumption⟩
  · cases h
theorem one_eq (v : Value) : v.oneCell' = one v := by cases v <;> rfl
theorem sim_drew (hs : Sim ng ρ L w) : Sim ng ρ L w.drew := ⟨hs.ngl, hs.glob, hs.inj, hs.lt, hs.cells, fun i b c h => ⟨fun j v hv => (hs.ro i b c h).1 j v hv, (hs.ro i b c h).2⟩, hs.obj⟩
theorem ext_drew : Ext ρ L w ρ L w.drew := ⟨rfl, rfl, rfl, Nat.le_refl _, Nat.le_refl _, fun _ _ => rfl, fun i o h h1 _ => by have := (List.getElem?_eq_some_iff.1 h1).1; omega, fun _ _ _ => rfl, fun _ _ h _ => h⟩
theorem srcM_sound {sz : Nat} {tx : TypeId} {x : Value} {m : Nat} {news : List Value} (h : srcM P L sz tx x = some (m, news)) (hs : Sim ng ρ L w) (h1 : news.all one = true) :
    Src P sz tx (rl ρ x) m (news.map (rl ρ)) w ∧ ∀ v ∈ news, WF L.length v := by
  unfold srcM at h
  split at h
  · rename_i b o n c
    split at h
    · rename_i hsl
      obtain ⟨e, he⟩ := isSl_spec hsl
      cases hr : rdS L b o (n * sz) with
      | none => simp [hr] at h
      | some cs =>
        simp [hr] at h
        obtain ⟨rfl, rfl⟩ := h
        obtain ⟨g1, g2, g3⟩ := rdS_sound hs hr
        rw [rl_slice]
        refine ⟨Src.ofSlice w he _ _ _ _ (by simpa using g2) (fun j u hu => ?_) (fun u hu => ?_), g3⟩
        · rw [Addr.add_mid]; exact g1 j u hu
        · rw [one_eq]
          exact List.all_eq_true.1 (by rw [all_one_rl]; exact h1) u hu
    · cases h
  · split at h
    · rename_i hsl
      obtain ⟨e, he⟩ := isSl_spec hsl
      simp only [Option.some.injEq, Prod.mk.injEq] at h
      obtain ⟨rfl, rfl⟩ := h
      exact ⟨by simpa using Src.ofNil w he _, by simp⟩
    · cases h
  · rename_i s
    split at h
    · rename_i hc
      obtain ⟨rfl, hst⟩ := hc
      simp only [Option.some.injEq, Prod.mk.injEq] at h
      obtain ⟨rfl, rfl⟩ := h
      have hk : P.underlying tx = some .string := by
        unfold tStr at hst; split at hst
        · assumption
        · cases hst
      have hm : (byteCells s).map (rl ρ) = byteCells s := by
        conv => rhs; rw [← List.map_id (byteCells s)]
        refine List.map_congr_left fun v hv => ?_
        obtain ⟨b, _, rfl⟩ := List.mem_map.1 hv
        simp
      rw [hm, rl_string]
      exact ⟨Src.ofString w hk s, fun v hv => by
        obtain ⟨b, _, rfl⟩ := List.mem_map.1 hv
        exact WF_int⟩
    · cases h
  · cases h
theorem putM_sound {M' : List AO} {base : Option Addr} {n : Nat} {news : List Value} (h : putM L base n news = some M') (hs : Sim ng ρ L w) (h1 : news.all one = true) (hw : ∀ v ∈ news, WF L.length v) :
    ∃ w', ((match (base.map fun a => { a with block := ρ a.block }) with | some a => storeCells (a.add n) (news.map (rl ρ)) | none => pure ()) : Sem Unit).run P w = .ok () w' ∧ Sim ng ρ M' w' ∧ Ext ρ L w ρ M' w' ∧ M'.length = L.length := by
  unfold putM at h
  split at h
  · rename_i b o
    split at h
    · rename_i c T hc
      split at h
      · rename_i hl
        simp only [Option.some.injEq] at h; subst h
        obtain ⟨hb, hcw⟩ := hs.cells b c T hc
        refine ⟨setBlk w (ρ b) (.cells ((spl c (o + n) news).map (rl ρ)).toArray T (0, 0)), ?_, sim_set hs hc (fun u hu => ?_), ext_set hc rfl rfl, by simp⟩
        · have hst := run_storeCells (P := P) (news.map (rl ρ)) (c.map (rl ρ)) (o + n) 0 w hb (by rw [all_one_rl]; exact h1) (by simp; omega)
          simp only [Option.map_some, Addr.add_mid]
          rw [hst, spl_map _ hl, spl_eq (by simpa using hl)]
          simp
        · rcases mem_spl hu with hu | hu
          · exact hcw u hu
          · exact hw u hu
      · cases h
    · cases h
  · split at h
    · simp only [Option.some.injEq] at h; subst h
      exact ⟨w, by simp, hs, Ext.refl _ _ _, rfl⟩
    · cases h
  · cases h
theorem oldM_sound {base : Option Addr} {n sz c : Nat} {olds : List Value} (h : oldM L base (n * sz) = some olds) (hs : Sim ng ρ L w) :
    (Builtin.firstCells sz n (.slice (base.map fun a => { a with block := ρ a.block }) n c)).run P w = .ok (olds.map (rl ρ)).toArray w ∧ ∀ v ∈ olds, WF L.length v := by
  unfold oldM at h
  split at h
  · rename_i b o
    obtain ⟨g1, g2, g3⟩ := rdS_sound hs h
    refine ⟨?_, g3⟩
    simp only [Option.map_some]
    exact run_firstCells_some w sz n _ n c _ (by simpa using g2) fun j u hu => by rw [Addr.add_mid]; exact g1 j u hu
  · split at h
    · simp only [Option.some.injEq] at h; subst h
      exact ⟨by simp [Builtin.firstCells], by simp⟩
    · cases h
  · cases h
theorem rl_sl (base : Option Addr) (n c : Nat) : rl ρ (.slice base n c) = .slice (base.map fun a => { a with block := ρ a.block }) n c := by
  cases base <;> simp
theorem appM_sound {t tx ty : TypeId} {sv xv : Value} {K : Value → List AO → Prop} (h : AppM P L t tx sv xv K) (hs : Sim ng ρ L w) (hsv : WF L.length sv) :
    ∃ ρ' v M' w', (Builtin.append_ #[t, tx] ty #[rl ρ sv, rl ρ xv]).run P w = .ok (rl ρ' v) w' ∧ K v M' ∧ WF M'.length v ∧ Sim ng ρ' M' w' ∧ Ext ρ L w ρ' M' w' := by
  unfold AppM at h
  split at h
  · rename_i base n c
    obtain ⟨e, sz, b, zc, m, news, ht, hz, hsrc, hzl, h1, h⟩ := h
    obtain ⟨i, hu, hi, hsz, hb⟩ := tSl_spec ht
    obtain ⟨i', z, hi', hzv, hzc, hk, _⟩ := tZero_spec hz
    rw [hi] at hi'; simp only [Option.some.injEq] at hi'; subst hi'
    obtain ⟨g1, g2⟩ := srcM_sound hsrc hs h1
    rw [rl_sl]
    rcases h with ⟨hroom, M', hput, hk'⟩ | ⟨hgrow, hfit, h63, olds, hold, hk'⟩
    · obtain ⟨w', hrun, hs', hx, hl⟩ := putM_sound (P := P) hput hs h1 g2
      refine ⟨ρ, .slice base (n + m) c, M', w', ?_, hk', ?_, hs', hx⟩
      · rw [rl_sl]
        subst hsz
        have hsrc := g1.cells
        rcases g1.kind with ⟨e', hk2⟩ | hk2 <;>
          (cases base with
           | none =>
             simp only [Option.map_none, Sem.run_pure, Result.ok.injEq] at hrun
             obtain ⟨_, rfl⟩ := hrun
             simp [Builtin.append_, run_underlying hu, run_underlying hk2, sizeOf, typeInfo, hi, g1.len, hroom, hsrc]
           | some a =>
             simp only [Option.map_some] at hrun
             simp [Builtin.append_, run_underlying hu, run_underlying hk2, sizeOf, typeInfo, hi, g1.len, hroom, hsrc, hrun])
      · rw [hl]
        intro ρ1 ρ2 hr
        have := hsv ρ1 ρ2 hr
        rw [rl_sl, rl_sl] at this ⊢
        simp only [Value.slice.injEq, and_true] at this ⊢
        exact this
    · have hs1 := sim_drew hs
      obtain ⟨o1, o2⟩ := oldM_sound (P := P) (c := c) hold hs1
      subst hsz hb
      have hrun := run_append_grow_src (P := P) w t tx ty e i z hu hi hzv (base.map fun a => { a with block := ρ a.block }) n c (olds.map (rl ρ)) o1 (rl ρ xv) m (news.map (rl ρ)) g1 hgrow (by omega) (growslice_fits hgrow hfit)
      have hcap : n + m ≤ grownCap w (n + m) c e := by unfold grownCap; simp only [Question.cut]; omega
      have hcells : ((olds.map (rl ρ) ++ news.map (rl ρ)).toArray ++ Builtin.zeroCells z.cells (grownCap w (n + m) c e - (n + m))) = ((olds ++ news ++ zrep (grownCap w (n + m) c e - (n + m)) zc).map (rl ρ)).toArray := by
        have hzz : z.cells = zc.toArray := by rw [← hzc]
        have h3 : Builtin.zeroCells z.cells (grownCap w (n + m) c e - (n + m)) = (zrep (grownCap w (n + m) c e - (n + m)) zc).toArray := by
          rw [hzz]; unfold Builtin.zeroCells
          rw [show zc.toArray.size = i.size by simpa using hzl]
          have := arr_zrep (zc := zc) hzl (grownCap w (n + m) c e - (n + m))
          simpa [hzl] using this
        rw [h3, List.map_append, List.map_append, kon_map (zrep_kon hk)]
        simp
      rw [hcells] at hrun
      have hwf : ∀ v ∈ olds ++ news ++ zrep (grownCap w (n + m) c e - (n + m)) zc, WF L.length v := fun v hv => by
        simp only [List.mem_append] at hv
        rcases hv with (hv | hv) | hv
        · exact o2 v hv
        · exact g2 v hv
        · exact kon_wf (zrep_kon hk) _ v hv
      have hsim := sim_push (w := w.drew) (o := .cells (olds ++ news ++ zrep (grownCap w (n + m) c e - (n + m)) zc) e) (ob := .cells ((olds ++ news ++ zrep (grownCap w (n + m) c e - (n + m)) zc).map (rl ρ)).toArray e (0, 0)) hs1 (fun c T e => by
        simp only [AO.cells.injEq] at e
        obtain ⟨rfl, rfl⟩ := e
        exact ⟨rfl, hwf⟩) (fun _ _ e => by cases e) (fun _ e => by cases e)
      have hext := ext_push (ρ := ρ) (L := L) (w := w.drew) (o := .cells (olds ++ news ++ zrep (grownCap w (n + m) c e - (n + m)) zc) e) (ob := .cells ((olds ++ news ++ zrep (grownCap w (n + m) c e - (n + m)) zc).map (rl ρ)).toArray e (0, 0))
      refine ⟨_, .slice (some ⟨L.length, 0, none⟩) (n + m) (grownCap w (n + m) c e), _, _, ?_, hk' _ hcap, ?_, hsim, ext_drew.trans hext⟩
      · rw [hrun]
        simp [upN, World.alloc, pushBlk]
      · intro ρ1 ρ2 hr
        simp only [rl_slice, Value.slice.injEq, Option.some.injEq, Addr.mk.injEq, and_true]
        exact hr _ (by simp)
  · exact h.elim
def CopyM (P : Program) (M : List AO) (t tx : TypeId) (dst src : Value) (K : Value → List AO → Prop) : Prop := match dst with
  | .slice base n _ => ∃ e sz b m news M', tSl P t = some (e, sz, b) ∧ srcM P M sz tx src = some (m, news) ∧ news.all one = true ∧ m ≤ n ∧ putM M base 0 news = some M' ∧ K (.int .i64 m) M'
  | _ => False
theorem copyM_sound {t tx ty : TypeId} {dv sv : Value} {K : Value → List AO → Prop} (h : CopyM P L t tx dv sv K) (hs : Sim ng ρ L w) :
    ∃ v M' w', (Builtin.copy_ #[t, tx] ty #[rl ρ dv, rl ρ sv]).run P w = .ok (rl ρ v) w' ∧ K v M' ∧ WF M'.length v ∧ Sim ng ρ M' w' ∧ Ext ρ L w ρ M' w' := by
  unfold CopyM at h
  split at h
  · rename_i base n c
    obtain ⟨e, sz, b, m, news, M', ht, hsrc, h1, hm, hput, hk⟩ := h
    obtain ⟨i, hu, hi, hsz, hb⟩ := tSl_spec ht
    obtain ⟨g1, g2⟩ := srcM_sound hsrc hs h1
    obtain ⟨w', hrun, hs', hx, hl⟩ := putM_sound (P := P) hput hs h1 g2
    rw [rl_sl]
    refine ⟨.int .i64 m, M', w', ?_, hk, WF_int, hs', hx⟩
    subst hsz
    have hcl := g1.cells
    have hmin : Nat.min m n = m := Nat.min_eq_left hm
    cases base with
    | none =>
      simp only [Option.map_none, Sem.run_pure, Result.ok.injEq] at hrun
      obtain ⟨_, rfl⟩ := hrun
      simp [Builtin.copy_, run_underlying hu, sizeOf, typeInfo, hi, g1.len, hmin, hcl, goInt]
    | some a =>
      simp only [Option.map_some] at hrun
      have ha : ∀ x : Addr, x.add 0 = x := fun x => by simp [Addr.add]
      rw [ha] at hrun
      simp [Builtin.copy_, run_underlying hu, sizeOf, typeInfo, hi, g1.len, hmin, hcl, hrun, goInt]
  · exact h.elim
def numsOf : List Value → Option (List Int)
  | [] => some []
  | .int .u8 n :: vs => (numsOf vs).map fun ns => n :: ns
  | _ :: _ => none
theorem numsOf_spec : ∀ {cs : List Value} {ns : List Int}, numsOf cs = some ns → cs = ns.map (Value.int .u8)
  | [], ns, h => by simp [numsOf] at h; subst h; rfl
  | v :: vs, ns, h => by
    unfold numsOf at h
    split at h
    · rename_i heq; cases heq
    · rename_i n vs' heq
      simp only [List.cons.injEq] at heq
      obtain ⟨rfl, rfl⟩ := heq
      cases hn : numsOf vs with
      | none => simp [hn] at h
      | some ms =>
        simp [hn] at h; subst h
        rw [numsOf_spec hn]; rfl
    · cases h
def convM (P : Program) (M : List AO) (s t : TypeId) (v : Value) : Option Value := match v with
  | .slice (some ⟨b, o, none⟩) n _ => match P.underlying s with
    | some (.slice e) => match P.underlying e, P.underlying t with
      | some (.int .u8), some .string => ((rdS M b o n).bind numsOf).map fun xs => .string (strOfNums xs)
      | _, _ => none
    | _ => none
  | .slice none 0 _ => match P.underlying s with
    | some (.slice e) => match P.underlying e, P.underlying t with
      | some (.int .u8), some .string => some (.string ⟨#[]⟩)
      | _, _ => none
    | _ => none
  | v => convV P s t v
theorem convM_sound {s t : TypeId} {v r : Value} (h : convM P L s t v = some r) (hs : Sim ng ρ L w) : (convert s t (rl ρ v)).run P w = .ok (rl ρ r) w ∧ ∀ n, WF n r := by
  unfold convM at h
  split at h
  · rename_i b o n c
    split at h
    · rename_i e he
      split at h
      · rename_i h8 hst
        cases hr : rdS L b o n with
        | none => simp [hr] at h
        | some cs =>
          cases hn : numsOf cs with
          | none => simp [hr, hn] at h
          | some xs =>
            simp [hr, hn] at h; subst h
            have hcs := numsOf_spec hn
            obtain ⟨g1, g2, _⟩ := rdS_sound hs hr
            subst hcs
            refine ⟨?_, fun n ρ1 ρ2 _ => by simp⟩
            rw [rl_slice, rl_string]
            refine run_convert_bytes_arg w s e he h8 (ρ b) o n c xs (by simpa using g2) (fun i hi => ?_) t hst
            have hi' : i < xs.length := by
              have : xs.length = n := by simpa using g2
              omega
            have := g1 i (.int .u8 (xs.getD i 0)) (by simp [List.getD_eq_getElem?_getD, hi'])
            exact this
      · cases h
    · cases h
  · rename_i c
    split at h
    · rename_i e he
      split at h
      · rename_i h8 hst
        simp only [Option.some.injEq] at h; subst h
        refine ⟨?_, fun n ρ1 ρ2 _ => by simp⟩
        rw [rl_slice0, rl_string]
        exact run_convert_bytes_nil w s e he h8 0 c t hst
      · cases h
    · cases h
  · exact convV_sound h w
end
end Go.Tb
end
