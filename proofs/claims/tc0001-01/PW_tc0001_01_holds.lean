import PyProof.Rows.All
import Wide.All
import OpenK.AllK
import Wide.FinOn
import PySem.Challenge.RW_tc0001_01
set_option Elab.async false
set_option maxRecDepth 100000
local macro_rules | `(tactic| walk_at $s:str) => `(tactic| k_extra $s)

section
open PySem PySem.W PyProof.Rows
set_option Elab.async false
namespace Mine
set_option maxRecDepth 100000 in
set_option maxHeartbeats 8000000 in
open_top hd for PySem.Challenge.rw_tc0001_01
end Mine
end

section
open PySem PySem.W PySem.Spec PySem.Calls PyProof.Rows
set_option Elab.async false
set_option maxRecDepth 100000
namespace Mine

noncomputable abbrev PV : Program := hd.view_39
noncomputable abbrev LO : List Str := looseW hd.view_39 [Str.ofString "_twin_re_1", Str.ofString "_twin_re_2"]
noncomputable abbrev MD (w : World) : Model := model PySem.Challenge.pw_tc0001_01 w
abbrev NE : Value → Shared → Prop := fun _ _ => False

section
variable {w : World} {mean : ExcName → Option Value} {mg mb : Str → Option Value}

theorem enter {A : Around} {s : Shared} {G : Heap} {name qual : Str} {params : Arguments} {body : List Stmt} {scope : Scope} {dV kV doc pm cdv ct oc : Value} {an od : Option Addr} {osl : Array (Option Value)} {f : Addr} {args : List Value} {binds : List (Str × Value)} {R : Value → Shared → Prop} (lg : List (Addr × Obj))
    (X : (hd.heap_39 w.params).In G) (T : Top PV LO mean mg mb G) (st : G.StaysIn s.heap) (hm : ∀ p ∈ lg, s.heap.get? p.1 = some p.2 ∧ G.get? p.1 = none)
    (ho : (hd.heap_39 w.params).lookup f = some ⟨oc, od, .func (fnOf name qual params body scope dV kV doc pm an cdv ct), osl⟩) (hcd : codeIn (hd.heap_39 w.params) cdv qual = true)
    (hroom : A.depth < recursionLimit) (hbind : bindArgs (fnOf name qual params body scope dV kV doc pm an cdv ct) ⟨args, []⟩ = pure binds) (hloc : ∀ y ∈ binds, scope.names.lookup y.1 = some .local)
    (hcell : ∀ x ∈ scope.names, x.2 ≠ .cell)
    (h : ∀ g L' h₁, (∀ a o, s.heap.get? a = some o → a ∉ lg.map Prod.fst → g.get? a = some o) → (∀ a o, g.get? a = some o → s.heap.get? a = some o) → L' = s.heap.objs.size →
      Fr g L' h₁ (fun y => binds.reverse.lookup y) → News g L' h₁ lg → (hd.heap_39 w.params).In g → Top PV LO mean mg mb g →
      wpAny (MD w) (A.deeper (envOf qual scope L' f cdv)) (execs body (envOf qual scope L' f cdv)) (fun fl s' => R (match fl with | .ret v => v | _ => .none) s') NE { s with heap := h₁, toks := s.toks + binds.length })
    (hco : scope.isCoroutine = false) (hgen : scope.isGenerator = false) (hk : scope.kind = .function) : wpAny (MD w) A (call (.ref f) args) R NE s := by
  have nm : ∀ b o, G.get? b = some o → b ∉ lg.map Prod.fst := fun b o e q => by
    obtain ⟨p, hp, rfl⟩ := List.mem_map.mp q
    rw [(hm p hp).2] at e; cases e
  have stg : G.StaysIn (hideAll s.heap (lg.map Prod.fst)) := fun b o e => hideAll_get _ (st b o e) (nm b o e)
  have Xs : (hd.heap_39 w.params).In s.heap := X.keeps st
  refine wpAny_call ?_
  refine codeAny_call_def (fd := fnOf name qual params body scope dV kV doc pm an cdv ct) (body := body) (binds := binds) hroom (Xs _ _ ho) rfl (T.nolimit.keeps st) (codeRec_of Xs hcd) rfl (BindsTo.of_eq hbind) hcell hloc (fun h₁ hns hk₁ => ?_) hco hgen hk
  refine wpAny_mono (h (hideAll s.heap (lg.map Prod.fst)) s.heap.objs.size h₁ (fun a o e n => hideAll_get _ e n) (fun a o e => of_hideAll _ e) rfl ⟨hns, fun b o e => hk₁ b o (of_hideAll _ e), Nat.le_of_eq (hideAll_size _ _)⟩
    (fun p hp => ⟨hk₁ _ _ (hm p hp).1, Nat.ne_of_lt (Heap.lt_size (hm p hp).1), hideAll_none _ (List.mem_map_of_mem hp)⟩) (X.keeps stg) (T.keeps stg)) (fun fl s' hl => hl) fun _ _ y => y.elim
end
/-- take apart what is known while the goal has but a letter: the terms stay small -/
theorem hidden {Goal : Prop} (h : ∀ G : Prop, (Goal → G) → G) : Goal := h Goal id
end Mine
end

section
open PySem PySem.Sre
set_option Elab.async false
set_option maxRecDepth 100000
namespace Mine

theorem runFor_stable (m : M) (h : m.outcome.isSome = true) : ∀ n, M.runFor n m = m
  | 0 => rfl
  | n + 1 => by rw [M.runFor, if_pos h]
theorem step_out (m : M) (h : m.outcome.isSome = true) : m.step = m := by rw [M.step, if_pos h]
theorem runFor_add (m : M) : ∀ a b, M.runFor (a + b) m = M.runFor b (M.runFor a m)
  | 0, b => by rw [Nat.zero_add]; rfl
  | a + 1, b => by
    rw [Nat.succ_add, M.runFor, M.runFor]
    by_cases h : m.outcome.isSome = true
    · rw [if_pos h, if_pos h, runFor_stable m h]
    · rw [if_neg h, if_neg h, runFor_add]
theorem runFor_step (m : M) (n : Nat) : M.runFor (n + 1) m = M.runFor n m.step := by
  rw [M.runFor]
  by_cases h : m.outcome.isSome = true
  · rw [if_pos h, step_out m h, runFor_stable m h]
  · rw [if_neg h]

def C1 : Array Nat := #[14, 4, 0, 1, 1, 6, 1, 16, 46, 1]
def C2 : Array Nat := #[14, 9, 4, 1, 2, 16, 10, 16, 13, 0, 7, 7, 16, 13, 16, 10, 15, 18, 5, 16, 10, 15, 13, 11, 16, 13, 5, 5, 0, 16, 10, 1, 15, 2, 0, 1]

/-- ends at (start, handed) or not at all -/
def EndsAt (m : M) (r : Option (Nat × Nat)) (N : Nat) : Prop :=
  ∃ n, n ≤ N ∧ match r with
    | some (b, e) => (M.runFor n m).outcome matches some .matched ∧ (M.runFor n m).start = b ∧ (M.runFor n m).handed = e
    | none => (M.runFor n m).outcome matches some .failed
theorem EndsAt.next {m : M} {r : Option (Nat × Nat)} {N : Nat} (h : EndsAt m.step r N) : EndsAt m r (N + 1) := by
  obtain ⟨n, hn, q⟩ := h
  refine ⟨n + 1, Nat.succ_le_succ hn, ?_⟩
  rw [runFor_step]; exact q
theorem EndsAt.mono {m : M} {r : Option (Nat × Nat)} {N N' : Nat} (h : EndsAt m r N) (hl : N ≤ N') : EndsAt m r N' :=
  let ⟨n, hn, q⟩ := h; ⟨n, Nat.le_trans hn hl, q⟩

/-- the machine of the first pattern as it stands before a place -/
def at1 (text : Array Nat) (lim s : Nat) (first : Bool) (sn : Seen) : M :=
  { code := C1, text, lim, start := s, lastStart := lim, pc := 5, pos := s, handed := s, outermost := first, marks := #[], lastmark := -1, lastindex := -1,
    frames := [{ wait := .nextStart, pc := 5, pos := s, outermost := first }], weight := 1, seen := sn }

theorem at1_bol {text : Array Nat} {lim s : Nat} {first : Bool} {sn : Seen} (hb : (s == 0 || text.getD (s - 1) 0 == 10) = true) :
    ∃ sn', (at1 text lim s first sn).step = { at1 text lim s first sn with pc := 7, seen := sn' } := by
  refine ⟨(sn.add 6).add 44, ?_⟩
  have h : (at1 text lim s first sn).step = (match (Except.ok (s == 0 || text.getD (s - 1) 0 == 10) : Except String Bool) with
    | .error why => ({ at1 text lim s first sn with seen := sn.add 6 } : M).stick why
    | .ok yes => if yes then ({ at1 text lim s first sn with pc := 7, seen := (sn.add 6).add 44 } : M) else ({ at1 text lim s first sn with seen := (sn.add 6).add 44 } : M).say false) := rfl
  rw [h, hb]; rfl
theorem at1_nobol {text : Array Nat} {lim s : Nat} {first : Bool} {sn : Seen} (hb : (s == 0 || text.getD (s - 1) 0 == 10) = false) :
    ∃ sn', (at1 text lim s first sn).step = { at1 text lim s first sn with answer := some false, seen := sn' } := by
  refine ⟨(sn.add 6).add 44, ?_⟩
  have h : (at1 text lim s first sn).step = (match (Except.ok (s == 0 || text.getD (s - 1) 0 == 10) : Except String Bool) with
    | .error why => ({ at1 text lim s first sn with seen := sn.add 6 } : M).stick why
    | .ok yes => if yes then ({ at1 text lim s first sn with pc := 7, seen := (sn.add 6).add 44 } : M) else ({ at1 text lim s first sn with seen := (sn.add 6).add 44 } : M).say false) := rfl
  rw [h, hb]; rfl
/-- the answer no goes to the next place -/
theorem at1_on {text : Array Nat} {lim s : Nat} {first : Bool} {sn : Seen} {pc p : Nat} (hs : s < lim) :
    ({ at1 text lim s first sn with pc := pc, pos := p, answer := some false } : M).step = at1 text lim (s + 1) false sn := by
  have h : ({ at1 text lim s first sn with pc := pc, pos := p, answer := some false } : M).step = if s < lim then at1 text lim (s + 1) false sn
    else ({ at1 text lim s first sn with frames := [], weight := 0, pc := 5, pos := s, answer := some false } : M) := rfl
  rw [h, if_pos hs]
theorem at1_last {text : Array Nat} {lim s : Nat} {first : Bool} {sn : Seen} {pc p : Nat} (hs : ¬ s < lim) :
    ({ at1 text lim s first sn with pc := pc, pos := p, answer := some false } : M).step = ({ at1 text lim s first sn with frames := [], weight := 0, pc := 5, pos := s, answer := some false } : M) := by
  have h : ({ at1 text lim s first sn with pc := pc, pos := p, answer := some false } : M).step = if s < lim then at1 text lim (s + 1) false sn
    else ({ at1 text lim s first sn with frames := [], weight := 0, pc := 5, pos := s, answer := some false } : M) := rfl
  rw [h, if_neg hs]

theorem at1_lit {text : Array Nat} {lim s : Nat} {first : Bool} {sn : Seen} (hl : s < lim) :
    ∃ sn', ({ at1 text lim s first sn with pc := 7 } : M).step = if text.getD s 0 == 46 then ({ at1 text lim s first sn with pc := 9, pos := s + 1, seen := sn' } : M) else ({ at1 text lim s first sn with pc := 7, answer := some false, seen := sn' } : M) := by
  refine ⟨sn.add 16, ?_⟩
  have h : ({ at1 text lim s first sn with pc := 7 } : M).step = if s ≥ lim then ({ at1 text lim s first sn with pc := 7, seen := sn.add 16 } : M).say false else
      (match (Except.ok (text.getD s 0 == 46, sn.add 16) : Except String (Bool × Seen)) with
      | .error why => ({ at1 text lim s first sn with pc := 7, seen := sn.add 16 } : M).stick why
      | .ok (false, seen) => ({ at1 text lim s first sn with pc := 7, seen } : M).say false
      | .ok (true, seen) => ({ at1 text lim s first sn with pc := 9, pos := s + 1, seen } : M)) := rfl
  rw [h, if_neg (Nat.not_le.mpr hl)]
  cases text.getD s 0 == 46 <;> rfl
theorem at1_out {text : Array Nat} {lim s : Nat} {first : Bool} {sn : Seen} (hl : ¬ s < lim) :
    ∃ sn', ({ at1 text lim s first sn with pc := 7 } : M).step = ({ at1 text lim s first sn with pc := 7, answer := some false, seen := sn' } : M) := by
  refine ⟨sn.add 16, ?_⟩
  have h : ({ at1 text lim s first sn with pc := 7 } : M).step = if s ≥ lim then ({ at1 text lim s first sn with pc := 7, seen := sn.add 16 } : M).say false else
      (match (Except.ok (text.getD s 0 == 46, sn.add 16) : Except String (Bool × Seen)) with
      | .error why => ({ at1 text lim s first sn with pc := 7, seen := sn.add 16 } : M).stick why
      | .ok (false, seen) => ({ at1 text lim s first sn with pc := 7, seen } : M).say false
      | .ok (true, seen) => ({ at1 text lim s first sn with pc := 9, pos := s + 1, seen } : M)) := rfl
  rw [h, if_pos (Nat.not_lt.mp hl)]; rfl
theorem at1_found {text : Array Nat} {lim s : Nat} {first : Bool} {sn : Seen} : EndsAt ({ at1 text lim s first sn with pc := 9, pos := s + 1 } : M) (some (s, s + 1)) 3 := by
  refine ⟨3, Nat.le_refl _, ?_⟩
  cases first
  · exact ⟨rfl, rfl, rfl⟩
  · exact ⟨rfl, rfl, rfl⟩
def bolAt (text : Array Nat) (s : Nat) : Bool := s == 0 || text.getD (s - 1) 0 == 10
def find1 (text : Array Nat) : Nat → Nat → Option (Nat × Nat)
  | 0, _ => none
  | k + 1, s => if bolAt text s && text.getD s 0 == 46 then some (s, s + 1) else find1 text k (s + 1)
theorem ends1 {text : Array Nat} {lim : Nat} : ∀ (k s : Nat) (first : Bool) (sn : Seen), s + k = lim → EndsAt (at1 text lim s first sn) (find1 text k s) (3 * k + 6)
  | 0, s, first, sn, hk => by
    have hl : ¬ s < lim := by lia
    have fin : ∀ (sn : Seen) (pc p : Nat), EndsAt ({ at1 text lim s first sn with pc := pc, pos := p, answer := some false } : M) none 2 := fun sn pc p => by
      refine EndsAt.next ?_
      rw [at1_last hl]
      exact ⟨1, Nat.le_refl _, rfl⟩
    rw [find1]
    cases hb : bolAt text s with
    | false =>
      obtain ⟨sn', e⟩ := at1_nobol (text := text) (lim := lim) (first := first) (sn := sn) hb
      refine EndsAt.next (N := 5) ?_
      rw [e]; exact (fin sn' 5 s).mono (by lia)
    | true =>
      obtain ⟨sn', e⟩ := at1_bol (text := text) (lim := lim) (first := first) (sn := sn) hb
      refine EndsAt.next (N := 5) ?_
      rw [e]
      obtain ⟨sn'', e'⟩ := at1_out (text := text) (first := first) (sn := sn') hl
      refine EndsAt.next (N := 4) ?_
      show EndsAt ({ at1 text lim s first sn' with pc := 7 } : M).step none 4
      rw [e']; exact (fin sn'' 7 s).mono (by lia)
  | k + 1, s, first, sn, hk => by
    have hl : s < lim := by lia
    have ih := fun sn => ends1 (text := text) (lim := lim) k (s + 1) false sn (by lia)
    have fin : ∀ (sn : Seen) (pc p : Nat), EndsAt ({ at1 text lim s first sn with pc := pc, pos := p, answer := some false } : M) (find1 text k (s + 1)) (3 * k + 7) := fun sn pc p => by
      refine EndsAt.next ?_
      rw [at1_on hl]
      exact ih sn
    rw [find1]
    cases hb : bolAt text s with
    | false =>
      obtain ⟨sn', e⟩ := at1_nobol (text := text) (lim := lim) (first := first) (sn := sn) hb
      refine EndsAt.next (N := 3 * k + 8) ?_
      rw [e]
      simp only [Bool.false_and, Bool.false_eq_true, if_false]
      exact (fin sn' 5 s).mono (by lia)
    | true =>
      obtain ⟨sn', e⟩ := at1_bol (text := text) (lim := lim) (first := first) (sn := sn) hb
      refine EndsAt.next (N := 3 * k + 8) ?_
      rw [e]
      obtain ⟨sn'', e'⟩ := at1_lit (text := text) (first := first) (sn := sn') hl
      refine EndsAt.next (N := 3 * k + 7) ?_
      show EndsAt ({ at1 text lim s first sn' with pc := 7 } : M).step _ _
      rw [e']
      cases hc : text.getD s 0 == 46 with
      | false =>
        simp only [Bool.and_false, Bool.false_eq_true, if_false]
        exact (fin sn'' 7 s)
      | true =>
        simp only [Bool.and_true, if_true]
        exact (at1_found (text := text) (lim := lim) (s := s) (first := first) (sn := sn'')).mono (show 3 ≤ 3 * k + 7 by lia)

theorem search1 (text : Array Nat) (start : Nat) (h : start ≤ text.size) : EndsAt (forSearch C1 text 0 start text.size false) (find1 text (text.size - start) start) (3 * (text.size - start) + 6) := by
  have e : forSearch C1 text 0 start text.size false = if start > text.size ∨ text.size - start < 1 then
      ({ at1 text text.size start true (({} : Seen).add 14) with start := start, frames := [], weight := 0, lastStart := 0, outermost := true, answer := some false } : M) else at1 text text.size start true (({} : Seen).add 14) := by
    unfold forSearch
    by_cases q : start > text.size ∨ text.size - start < 1
    · rw [if_pos q]
      show (if (decide (start > text.size) || decide (text.size - start < 1)) = true then _ else _) = _
      rw [if_pos (by simpa using q)]; rfl
    · rw [if_neg q]
      show (if (decide (start > text.size) || decide (text.size - start < 1)) = true then _ else _) = _
      rw [if_neg (by simpa using q)]; rfl
  rw [e]
  by_cases q : start > text.size ∨ text.size - start < 1
  · rw [if_pos q]
    have : text.size - start = 0 := by lia
    rw [this]
    exact ⟨1, by lia, rfl⟩
  · rw [if_neg q]
    exact ends1 _ _ _ _ (by lia)

def at2 (text : Array Nat) (lim s : Nat) (sn : Seen) : M :=
  { code := C2, text, lim, start := s, lastStart := lim, pc := 10, pos := s, handed := s, outermost := true, marks := #[], lastmark := -1, lastindex := -1,
    frames := [{ wait := .nextStart, pc := 10, pos := s, outermost := true }], weight := 1, seen := sn }
def in2a (text : Array Nat) (lim s : Nat) (sn : Seen) (pc p : Nat) : M :=
  { code := C2, text, lim, start := s, lastStart := lim, pc, pos := p, handed := s, outermost := true, marks := #[], lastmark := -1, lastindex := -1,
    frames := [{ wait := .nextBranch, pc := 11, pos := s, outermost := true }, { wait := .nextStart, pc := 10, pos := s, outermost := true }], weight := 2, seen := sn }
def in2b (text : Array Nat) (lim s : Nat) (sn : Seen) (pc p : Nat) : M :=
  { code := C2, text, lim, start := s, lastStart := lim, pc, pos := p, handed := s, outermost := true, marks := #[], lastmark := -1, lastindex := -1,
    frames := [{ wait := .nextBranch, pc := 18, pos := s, outermost := true }, { wait := .nextStart, pc := 10, pos := s, outermost := true }], weight := 2, seen := sn }
theorem at2_branch (text : Array Nat) (lim s : Nat) (sn : Seen) : (at2 text lim s sn).step = in2a text lim s (sn.add 7) 12 s := rfl
theorem lit2a {text : Array Nat} {lim s p : Nat} {sn : Seen} (pc c : Nat) (hpc : (pc = 12 ∧ c = 13) ∨ (pc = 14 ∧ c = 10)) (hl : p < lim) :
    (in2a text lim s sn pc p).step = if text.getD p 0 == c then in2a text lim s (sn.add 16) (pc + 2) (p + 1) else { in2a text lim s (sn.add 16) pc p with answer := some false } := by
  rcases hpc with ⟨rfl, rfl⟩ | ⟨rfl, rfl⟩
  · have h : (in2a text lim s sn 12 p).step = if p ≥ lim then (in2a text lim s (sn.add 16) 12 p).say false else
      (match (Except.ok (text.getD p 0 == 13, sn.add 16) : Except String (Bool × Seen)) with
      | .error why => (in2a text lim s (sn.add 16) 12 p).stick why
      | .ok (false, seen) => (in2a text lim s seen 12 p).say false
      | .ok (true, seen) => in2a text lim s seen 14 (p + 1)) := rfl
    rw [h, if_neg (Nat.not_le.mpr hl)]
    cases text.getD p 0 == 13 <;> rfl
  · have h : (in2a text lim s sn 14 p).step = if p ≥ lim then (in2a text lim s (sn.add 16) 14 p).say false else
      (match (Except.ok (text.getD p 0 == 10, sn.add 16) : Except String (Bool × Seen)) with
      | .error why => (in2a text lim s (sn.add 16) 14 p).stick why
      | .ok (false, seen) => (in2a text lim s seen 14 p).say false
      | .ok (true, seen) => in2a text lim s seen 16 (p + 1)) := rfl
    rw [h, if_neg (Nat.not_le.mpr hl)]
    cases text.getD p 0 == 10 <;> rfl
theorem lit2b {text : Array Nat} {lim s p : Nat} {sn : Seen} (hl : p < lim) :
    (in2b text lim s sn 19 p).step = if text.getD p 0 == 10 then in2b text lim s (sn.add 16) 21 (p + 1) else { in2b text lim s (sn.add 16) 19 p with answer := some false } := by
  have h : (in2b text lim s sn 19 p).step = if p ≥ lim then (in2b text lim s (sn.add 16) 19 p).say false else
      (match (Except.ok (text.getD p 0 == 10, sn.add 16) : Except String (Bool × Seen)) with
      | .error why => (in2b text lim s (sn.add 16) 19 p).stick why
      | .ok (false, seen) => (in2b text lim s seen 19 p).say false
      | .ok (true, seen) => in2b text lim s seen 21 (p + 1)) := rfl
  rw [h, if_neg (Nat.not_le.mpr hl)]
  cases text.getD p 0 == 10 <;> rfl
theorem end2c {text : Array Nat} {lim s p pc : Nat} {sn : Seen} : EndsAt ({ at2 text lim s sn with pc := pc, handed := p, answer := some true } : M) (some (s, p)) 2 := ⟨2, Nat.le_refl _, rfl, rfl, rfl⟩
theorem end2a {text : Array Nat} {lim s p : Nat} {sn : Seen} : EndsAt (in2a text lim s sn 16 p) (some (s, p)) 5 := by
  refine EndsAt.next (N := 4) ?_
  rw [show (in2a text lim s sn 16 p).step = in2a text lim s (sn.add 15) 35 p from rfl]
  refine EndsAt.next (N := 3) ?_
  rw [show (in2a text lim s (sn.add 15) 35 p).step = ({ in2a text lim s ((sn.add 15).add 1) 35 p with handed := p, answer := some true } : M) from rfl]
  refine EndsAt.next (N := 2) ?_
  rw [show ({ in2a text lim s ((sn.add 15).add 1) 35 p with handed := p, answer := some true } : M).step = ({ at2 text lim s ((sn.add 15).add 1) with pc := 11, handed := p, answer := some true } : M) from rfl]
  exact end2c
theorem end2b {text : Array Nat} {lim s p : Nat} {sn : Seen} : EndsAt (in2b text lim s sn 21 p) (some (s, p)) 5 := by
  refine EndsAt.next (N := 4) ?_
  rw [show (in2b text lim s sn 21 p).step = in2b text lim s (sn.add 15) 35 p from rfl]
  refine EndsAt.next (N := 3) ?_
  rw [show (in2b text lim s (sn.add 15) 35 p).step = ({ in2b text lim s ((sn.add 15).add 1) 35 p with handed := p, answer := some true } : M) from rfl]
  refine EndsAt.next (N := 2) ?_
  rw [show ({ in2b text lim s ((sn.add 15).add 1) 35 p with handed := p, answer := some true } : M).step = ({ at2 text lim s ((sn.add 15).add 1) with pc := 18, handed := p, answer := some true } : M) from rfl]
  exact end2c
theorem next2 {text : Array Nat} {lim s p pc : Nat} {sn : Seen} : ({ in2a text lim s sn pc p with answer := some false } : M).step = in2b text lim s sn 19 s := rfl
theorem hit2 {text : Array Nat} {lim s : Nat} {sn : Seen} (hl : s < lim) (h : text.getD s 0 = 10 ∨ (text.getD s 0 = 13 ∧ text.getD (s + 1) 0 = 10 ∧ s + 1 < lim)) :
    EndsAt (at2 text lim s sn) (some (s, if text.getD s 0 == 13 then s + 2 else s + 1)) 9 := by
  refine EndsAt.next (N := 8) ?_
  rw [at2_branch]
  refine EndsAt.next (N := 7) ?_
  rw [lit2a 12 13 (.inl ⟨rfl, rfl⟩) hl]
  rcases h with h | ⟨h, h', hl'⟩
  · rw [h]
    show EndsAt ({ in2a text lim s _ 12 s with answer := some false } : M) (some (s, s + 1)) 7
    refine EndsAt.next (N := 6) ?_
    rw [next2]
    refine EndsAt.next (N := 5) ?_
    rw [lit2b hl, h]
    exact end2b
  · rw [h]
    show EndsAt (in2a text lim s _ 14 (s + 1)) (some (s, s + 2)) 7
    refine EndsAt.next (N := 6) ?_
    rw [lit2a 14 10 (.inr ⟨rfl, rfl⟩) hl', h']
    exact end2a.mono (by lia)
theorem inSet2 (c : Nat) (sn : Seen) : ∃ sn', inSet C2 c 36 5 true sn = .ok (c == 10 || c == 13, sn') := by
  have h : inSet C2 c 36 5 true sn = if c == 10 then .ok (true, sn.add 16) else if c == 13 then .ok (true, (sn.add 16).add 16) else .ok (false, ((sn.add 16).add 16).add 0) := rfl
  rw [h]
  cases c == 10 <;> cases c == 13 <;> exact ⟨_, rfl⟩
def find0 (text : Array Nat) : Nat → Nat → Option Nat
  | 0, _ => none
  | k + 1, s => if text.getD s 0 == 10 || text.getD s 0 == 13 then some s else find0 text k (s + 1)
theorem adm2 {m : M} {text : Array Nat} (hc : m.code = C2) (ht : m.text = text) : ∀ (k s : Nat) (sn : Seen), s + k = m.lim → ∃ sn', M.admitted m (k + 1) s sn = .ok (find0 text k s, sn')
  | 0, s, sn, hk => by
    refine ⟨sn, ?_⟩
    rw [M.admitted, if_pos (show s ≥ m.lim by lia)]; rfl
  | k + 1, s, sn, hk => by
    obtain ⟨sn', e⟩ := inSet2 (text.getD s 0) sn
    rw [M.admitted, if_neg (show ¬ s ≥ m.lim by lia), hc, ht]
    show ∃ sn', (match inSet C2 (text.getD s 0) 36 5 true sn with | .ok (true, seen) => (.ok (some s, seen) : Except String (Option Nat × Seen)) | .ok (false, seen) => M.admitted m (k + 1) (s + 1) seen | .error why => .error why) = _
    rw [e, find0]
    cases q : (text.getD s 0 == 10 || text.getD s 0 == 13) with
    | true => exact ⟨_, rfl⟩
    | false =>
      obtain ⟨sn'', e'⟩ := adm2 (m := m) hc ht k (s + 1) sn' (by lia)
      exact ⟨sn'', e'⟩
def find2 (text : Array Nat) (k s : Nat) : Option (Nat × Nat) := match find0 text k s with
  | none => none
  | some s => some (s, if text.getD s 0 == 13 then s + 2 else s + 1)
/-- every 13 has a 10 behind it -/
def Paired (text : Array Nat) : Prop := ∀ s, text.getD s 0 = 13 → text.getD (s + 1) 0 = 10 ∧ s + 1 < text.size
theorem find0_some {text : Array Nat} : ∀ {k s r : Nat}, find0 text k s = some r → s ≤ r ∧ r < s + k ∧ (text.getD r 0 = 10 ∨ text.getD r 0 = 13)
  | 0, s, r, h => by cases h
  | k + 1, s, r, h => by
    rw [find0] at h
    cases q : (text.getD s 0 == 10 || text.getD s 0 == 13) with
    | true => rw [q] at h; simp only [if_true, Option.some.injEq] at h; subst h; exact ⟨Nat.le_refl _, by lia, by simpa using q⟩
    | false => rw [q] at h; have := find0_some (k := k) (s := s + 1) h; exact ⟨by lia, by lia, this.2.2⟩
def base2 (text : Array Nat) (start : Nat) : M :=
  { code := C2, text, lim := text.size, start := start, lastStart := text.size, pc := 10, pos := start, handed := start, outermost := true, marks := #[], lastmark := -1, lastindex := -1, seen := ({} : Seen).add 14 }
theorem search2 (text : Array Nat) (start : Nat) (h : start ≤ text.size) (hp : Paired text) : EndsAt (forSearch C2 text 0 start text.size false) (find2 text (text.size - start) start) 9 := by
  have e : forSearch C2 text 0 start text.size false = if start > text.size ∨ text.size - start < 1 then
      ({ base2 text start with lastStart := 0, answer := some false } : M) else match M.admitted (base2 text start) (text.size + 1 - start) start (({} : Seen).add 14) with
      | .ok (some s, seen) => at2 text text.size s seen
      | .ok (none, seen) => ({ base2 text start with seen := seen, answer := some false } : M)
      | .error why => (base2 text start).stick why := by
    unfold forSearch
    by_cases q : start > text.size ∨ text.size - start < 1
    · rw [if_pos q]
      show (if (decide (start > text.size) || decide (text.size - start < 1)) = true then _ else _) = _
      rw [if_pos (by simpa using q)]; rfl
    · rw [if_neg q]
      show (if (decide (start > text.size) || decide (text.size - start < 1)) = true then _ else _) = _
      rw [if_neg (by simpa using q)]
      show (match M.admitted (base2 text start) (text.size + 1 - start) start (({} : Seen).add 14) with
        | .ok (some s, seen) => ({ base2 text start with mustAdvance := false, seen := seen } : M).attemptAt s true
        | .ok (none, seen) => ({ base2 text start with seen := seen } : M).say false
        | .error why => (base2 text start).stick why) = _
      rcases M.admitted (base2 text start) (text.size + 1 - start) start (({} : Seen).add 14) with why | ⟨_ | s, seen⟩ <;> rfl
  rw [e]
  by_cases q : start > text.size ∨ text.size - start < 1
  · rw [if_pos q]
    have : text.size - start = 0 := by lia
    rw [this]
    exact ⟨1, by lia, rfl⟩
  · rw [if_neg q]
    obtain ⟨sn', ea⟩ := adm2 (m := base2 text start) (text := text) rfl rfl (text.size - start) start (({} : Seen).add 14) (by show start + (text.size - start) = text.size; lia)
    rw [show text.size + 1 - start = text.size - start + 1 by lia, ea]
    unfold find2
    cases hf : find0 text (text.size - start) start with
    | none => exact ⟨1, by lia, rfl⟩
    | some s =>
      obtain ⟨h1, h2, h3⟩ := find0_some hf
      refine hit2 (by lia) ?_
      rcases h3 with h3 | h3
      · exact .inl h3
      · exact .inr ⟨h3, hp s h3⟩
end Mine
end

section
open PySem PySem.W PySem.Spec PySem.Calls PyProof.Rows
set_option Elab.async false
set_option maxRecDepth 100000
namespace Mine
theorem plainAttrs_pat : PlainAttrs "re.Pattern" :=
  ⟨⟨"object.__getattribute__", by rw [typeLookup_type, builtinLookup_eq_fast]; kernel_rfl, by decide +kernel⟩, by rw [typeLookup_type, builtinLookup_eq_fast]; kernel_rfl⟩
theorem slot_pat_sub : Slot "re.Pattern" "sub" "re.Pattern.sub" :=
  .of (owner := "re.Pattern") (n := "sub") (by rw [typeLookup_type, builtinLookup_eq_fast]; kernel_rfl) (by decide +kernel) (by decide +kernel) (by decide +kernel)
    (by first | exact .inl (by decide +kernel) | exact .inr (by decide +kernel)) (by rw [isSubtype_type]; kernel_rfl)
theorem type_pat_sub : typeOf (.builtin "re.Pattern.sub") = pure (.type "method_descriptor") := by show builtinType _ = _; rw [builtinType_eq_fast]; kernel_rfl
theorem entry_pat_sub : entryFor table "re.Pattern.sub" = some Builtin.«re.Pattern.sub» := entryFor_of_tree (by kernel_rfl)
theorem entry_pat_loop : entryFor table "re.Pattern.sub.loop" = some Builtin.«re.Pattern.sub.loop» := entryFor_of_tree (by kernel_rfl)
theorem args_pat_sub (a b c : Value) : argsOk "re.Pattern.sub" ⟨[a, b, c], []⟩ := by
  unfold argsOk; kernel_rfl
end Mine
end

section
open PySem PySem.W PySem.Spec PySem.Calls PyProof.Rows
open PySem.Builtin.Re
set_option Elab.async false
set_option maxRecDepth 100000
namespace Mine
section
variable {Md : Model} {A : Around} {E : Value → Shared → Prop} {s : Shared}
def Res (r : Option (Nat × Nat)) (m : Sre.M) : Prop := match r with
  | some (b, e) => (m.outcome matches some .matched) ∧ m.start = b ∧ m.handed = e
  | none => m.outcome matches some .failed
theorem Res.out {r : Option (Nat × Nat)} {m : Sre.M} (h : Res r m) : m.outcome.isSome = true := by
  unfold Res at h
  cases r with
  | none => dsimp only at h; cases ho : m.outcome with
    | none => rw [ho] at h; cases h
    | some _ => rfl
  | some p => obtain ⟨h, _, _⟩ := h; cases ho : m.outcome with
    | none => rw [ho] at h; cases h
    | some _ => rfl
theorem endsAt_iff {m : Sre.M} {r : Option (Nat × Nat)} {N : Nat} (h : EndsAt m r N) : ∃ n, n ≤ N ∧ Res r (Sre.M.runFor n m) := by
  obtain ⟨n, hn, q⟩ := h
  refine ⟨n, hn, ?_⟩
  cases r with
  | none => exact q
  | some p => exact q
theorem wp_reDrive {r : Option (Nat × Nat)} {Q : Sre.M → Shared → Prop} (hq : ∀ m', Res r m' → Q m' s) : ∀ (turns : Nat) (m : Sre.M) (N : Nat), (∃ n, n ≤ N ∧ Res r (Sre.M.runFor n m)) → N < 4 * turns → wpAny Md A (reDrive turns m) Q E s
  | 0, _, _, _, h => absurd h (by omega)
  | turns + 1, m, N, ⟨n, hn, h⟩, hN => by
    rw [reDrive]
    show wpAny Md A (if (Sre.M.runFor 4 m).outcome.isSome then pure (Sre.M.runFor 4 m) else (do rule "sre.turn"; reDrive turns (Sre.M.runFor 4 m))) Q E s
    by_cases ho : (Sre.M.runFor 4 m).outcome.isSome = true
    · rw [if_pos ho]
      refine wpAny_pure (hq _ ?_)
      by_cases hl : n ≤ 4
      · have : Sre.M.runFor 4 m = Sre.M.runFor n m := by
          rw [show 4 = n + (4 - n) by omega, runFor_add, runFor_stable _ h.out]
        rw [this]; exact h
      · rw [show n = 4 + (n - 4) by omega, runFor_add, runFor_stable _ ho] at h
        exact h
    · rw [if_neg ho]
      have hl : ¬ n ≤ 4 := fun hl => ho (by
        rw [show 4 = n + (4 - n) by omega, runFor_add, runFor_stable _ h.out]; exact h.out)
      refine wpAny_bind (wpAny_rule (wp_reDrive hq turns _ (N - 4) ⟨n - 4, by omega, ?_⟩ (by omega)))
      rw [← runFor_add, show 4 + (n - 4) = n by omega]; exact h
theorem wp_ruleLoop {Q : PUnit → Shared → Prop} (m : Sre.M) (h : Q ⟨⟩ s) : ∀ l : List Nat, wpAny Md A (forIn l PUnit.unit fun i (_ : PUnit) => (do
    if m.seen.has i then rule (Sre.names.getD i "")
    pure (ForInStep.yield PUnit.unit) : Sem (ForInStep PUnit))) Q E s
  | [] => wpAny_pure h
  | i :: l => by
    rw [List.forIn_cons]
    refine wpAny_bind ?_
    by_cases q : m.seen.has i = true
    · simp only [q, if_true]
      exact wpAny_bind (wpAny_rule (wpAny_pure (wp_ruleLoop m h l)))
    · simp only [q]
      exact wpAny_pure (wp_ruleLoop m h l)
theorem wp_reRunToEnd {m : Sre.M} {r : Option (Nat × Nat)} {N : Nat} {Q : Option Sre.M → Shared → Prop} (h : EndsAt m r N) (hN : N < 2 ^ 64)
    (hq : match r with | some (b, e) => ∀ m', m'.start = b → m'.handed = e → Q (some m') s | none => Q none s) : wpAny Md A (reRunToEnd m) Q E s := by
  unfold reRunToEnd
  refine wpAny_bind (wp_reDrive (r := r) (fun m' hr => ?_) (2 ^ 64) m N (endsAt_iff h) (by omega))
  refine wpAny_bind (wp_ruleLoop m' ?_ _)
  cases r with
  | none =>
    unfold Res at hr
    dsimp only at hr hq
    cases ho : m'.outcome with
    | none => rw [ho] at hr; cases hr
    | some o => cases o with
      | failed => exact wpAny_pure hq
      | matched => rw [ho] at hr; cases hr
      | stuck _ => rw [ho] at hr; cases hr
  | some p =>
    obtain ⟨hr, hb, he⟩ := hr
    cases ho : m'.outcome with
    | none => rw [ho] at hr; cases hr
    | some o => cases o with
      | failed => rw [ho] at hr; cases hr
      | matched => exact wpAny_pure (hq m' hb he)
      | stuck _ => rw [ho] at hr; cases hr
end
end Mine
end

section
open PySem PySem.W PySem.Spec PySem.Calls PyProof.Rows
open PySem.Builtin.Re
set_option Elab.async false
set_option maxRecDepth 100000
namespace Mine
/-- a pattern's object with its code -/
structure PatAt (h : Heap) (p : Addr) (C : Array Nat) : Prop where
  has : ∃ fs T sl o items n, h.get? p = some ⟨.type "re.Pattern", none, .fields fs, sl⟩ ∧ fs.getD 5 .none = .ref T ∧ h.get? T = some o ∧ o.data = .seq items n ∧ (items.map reRawOf).map (·.toNat) = C ∧ reRawNat (fs.getD 2 .none) = 0 ∧ reRawNat (fs.getD 6 .none) = 0
theorem PatAt.keeps {h h' : Heap} {p : Addr} {C : Array Nat} (P : PatAt h p C) (k : ∀ a o, h.get? a = some o → h'.get? a = some o) : PatAt h' p C :=
  let ⟨fs, T, sl, o, items, n, h1, h2, h3, r⟩ := P.has; ⟨fs, T, sl, o, items, n, k _ _ h1, h2, k _ _ h3, r⟩
section
variable {Md : Model} {A : Around} {E : Value → Shared → Prop} {s : Shared}
theorem wp_target {p : Addr} {C : Array Nat} {x : Str} {tx : Tok} {Q : ReTarget → Shared → Prop} (P : PatAt s.heap p C)
    (h : Q { pattern := .ref p, string := .str x tx, code := C, text := x.cps, kind := 0, groups := 0, pos := 0, lim := x.cps.size } s) :
    wpAny Md A (reWholeTarget (.ref p) (.str x tx)) Q E s := by
  obtain ⟨fs, T, sl, o, items, n, h1, h2, h3, h4, h5, h6, h7⟩ := P.has
  unfold reWholeTarget
  refine wpAny_bind (wpAny_fieldsOf h1 rfl ?_)
  refine wpAny_bind (wpAny_of_eq (a := (x.cps, 0)) rfl ?_)
  dsimp only
  rw [h7, h6, h2]
  simp only [show ((0 : Nat) == 0 && (0 : Nat) == 1) = false from rfl, show ((0 : Nat) == 1 && (0 : Nat) == 0) = false from rfl, Bool.false_eq_true, if_false]
  refine wpAny_bind (wpAny_of_eq (a := ()) rfl ?_)
  unfold reRawItems
  refine wpAny_bind (wpAny_bind (wpAny_seqItems h3 h4 (wpAny_pure ?_)))
  refine wpAny_pure ?_
  rw [Option.getD_some, h5]
  exact h
end

/-- what is laid down from a place on -/
def piecesFrom (repl : Str) (text : Array Nat) (find : Nat → Option (Nat × Nat)) : Nat → Nat → List Str
  | 0, _ => []
  | k + 1, st => match find st with
    | some (b, e) => (if st < b then [⟨text.extract st b⟩] else []) ++ repl :: piecesFrom repl text find k e
    | none => if st < text.size then [⟨text.extract st text.size⟩] else []
def flatS (l : List Str) : Str := ⟨(l.flatMap fun x => x.cps.toList).toArray⟩
theorem flatS_cons (x : Str) (r : List Str) : flatS (x :: r) = x ++ flatS r := by
  show (⟨_⟩ : Str) = ⟨_⟩
  congr 1
  simp [flatS]
theorem flatS_nil : flatS [] = Str.empty := rfl
theorem str_append_empty (x : Str) : x ++ Str.empty = x := by
  show (⟨x.cps ++ #[]⟩ : Str) = x
  rw [Array.append_empty]
theorem join_flat : ∀ l : List Str, Str.join Str.empty l = flatS l
  | [] => rfl
  | [x] => by rw [flatS_cons, flatS_nil, str_append_empty]; rfl
  | x :: y :: r => by
    rw [flatS_cons, ← join_flat (y :: r)]
    show x ++ Str.empty ++ Str.join Str.empty (y :: r) = _
    rw [str_append_empty]
theorem flat_size : ∀ (l : List Str) (n : Nat), l.foldl (fun a b => a + b.length + Str.empty.length) n = n + (flatS l).cps.size
  | [], n => by simp [flatS]
  | x :: r, n => by
    rw [List.foldl_cons, flat_size r, flatS_cons]
    show n + x.cps.size + 0 + _ = n + (x.cps ++ (flatS r).cps).size
    rw [Array.size_append]; lia
theorem joinOk_flat (l : List Str) (h : (flatS l).cps.size ≤ sizeLine) : JoinOk Str.empty l = true := by
  unfold JoinOk
  have : l.toArray.foldl (fun a b => a + b.length + Str.empty.length) 0 = (flatS l).cps.size := by
    rw [List.foldl_toArray, flat_size, Nat.zero_add]
  rw [this]
  unfold Builtin.Str.tooLong
  simp; exact h
theorem join_is (l : List Str) : Txt.join Str.empty l = flatS l := (StrLaws.glued_eq_join _ _).trans (join_flat l)
section
variable {prog : Program} {w : World} {A : Around} {E : Value → Shared → Prop} {s : Shared}
theorem plain_loop : plainId "re.Pattern.sub.loop" = true := by decide +kernel
theorem wp_push {Md : Model} {ls : Addr} {items : Array Value} {v : Value} {Q : Unit → Shared → Prop} (hL : s.heap.IsList ls items) (hz : items.size ≤ 1000000)
    (h : ∀ h', Heap.SameBut ls s.heap h' → h'.IsList ls (items.push v) → Q () { s with heap := h' }) : wpAny Md A (updateSeq ls (·.push v)) Q E s := by
  obtain ⟨o, ho, hc, n, hd⟩ := id hL
  obtain ⟨n', hd'⟩ := Obj.data_mapSeq hd (·.push v)
  have hz1 : items.size ≤ sizeLine := Nat.le_trans hz (by rw [sizeLine_eq]; lia)
  refine wpAny_updateSeq ho hd (h _ (Heap.SameBut.update ..) ?_) hz1 (by simp only [Array.size_push]; lia)
  exact ⟨_, Heap.get?_update_self _ ho (Obj.isFreed_of_seq hd'), (Obj.cls_mapSeq ..).trans hc, n', hd'⟩
theorem strValues_push (ps : List (Str × Tok)) (a : Str) (t : Tok) : (strValues ps).toArray.push (.str a t) = (strValues (ps ++ [(a, t)])).toArray := by
  simp [strValues]
theorem wp_slice {Md : Model} {text : Array Nat} {b e : Nat} {Q : Value → Shared → Prop} (hz : text.size ≤ 1000000)
    (h : Q (.str ⟨text.extract b e⟩ s.toks) { s with toks := s.toks + 1 }) : wpAny Md A (reSlice text 0 b e) Q E s := by
  unfold reSlice
  rw [if_pos (show ((0 : Nat) == 0) = true from rfl)]
  refine wpAny_mkStr h ?_
  show (text.extract b e).size ≤ sizeLine
  rw [Array.size_extract, sizeLine_eq]; lia
theorem stays_sameBut {h₀ h h' : Heap} {ls : Addr} (hl : h₀.get? ls = none) (hS : h₀.StaysIn h) (hb : Heap.SameBut ls h h') : h₀.StaysIn h' := fun b o e => by
  have ne : b ≠ ls := fun q => by rw [q, hl] at e; cases e
  exact (hb.2 b ne).trans (hS b o e)
theorem wp_subLoop {R : Result → Shared → Prop} {h₀ : Heap} {p ls : Addr} {C : Array Nat} {x repl : Str} {tx tr : Tok} {N : Nat} (find : Nat → Option (Nat × Nat)) (P : PatAt h₀ p C)
    (hf : ∀ st, st ≤ x.cps.size → EndsAt (Sre.forSearch C x.cps 0 st x.cps.size false) (find st) N) (hN : N < 2 ^ 64) (hp : ∀ st b e, find st = some (b, e) → st ≤ b ∧ b < e ∧ e ≤ x.cps.size)
    (hx : x.cps.size ≤ 100000) (hl : h₀.get? ls = none) :
    ∀ (k st : Nat) (n : Int) (ps : List (Str × Tok)) (s : Shared), x.cps.size + 1 - st ≤ k → st ≤ x.cps.size → h₀.StaysIn s.heap → s.heap.IsList ls (strValues ps).toArray → ps.length + 2 * k ≤ 300000 →
      (∀ h' tk t, h₀.StaysIn h' → Heap.SameBut ls s.heap h' → R (.ok (.ret (.str (flatS (ps.map (·.1) ++ piecesFrom repl x.cps find k st)) t))) { s with heap := h', toks := tk }) →
      (flatS (ps.map (·.1) ++ piecesFrom repl x.cps find k st)).cps.size ≤ sizeLine →
      codeAny (model prog w) A (.builtin "re.Pattern.sub.loop" ⟨[.ref p, .str x tx, .str repl tr, .int 0 0, .int 0 0, .int n 0, .int st 0, .int st 0, .bool false, .ref ls, .bool false], []⟩) R s
  | 0, st, n, ps, s, hk, hst, _, _, _, _, _ => absurd hk (by lia)
  | k + 1, st, n, ps, s, hk, hst, hS, hL, hsz, hR, hfl => by
    have IH := fun st n ps s => wp_subLoop (R := R) (repl := repl) (tx := tx) (tr := tr) find P hf hN hp hx hl k st n ps s
    have hlen : (strValues ps).toArray.size ≤ 1000000 := by simp [strValues]; lia
    refine codeAny_builtin entry_pat_loop ?_
    rw [Around.under_plainId plain_loop]
    unfold Builtin.«re.Pattern.sub.loop»
    dsimp only
    refine wpAny_bind (wp_target (P.keeps hS) ?_)
    dsimp only
    rw [if_pos (show ((0 : Int) == 0) = true from rfl)]
    refine wpAny_bind (wpAny_of_eq (a := ()) rfl ?_)
    rw [show ((0 : Int) != 0 && decide (n ≥ 0)) = false from rfl, if_neg Bool.false_ne_true, Int.toNat_natCast]
    unfold reNextFound
    have he := hf st hst
    cases hfs : find st with
    | none =>
      rw [hfs] at he
      refine wpAny_bind (wp_reRunToEnd he hN ?_)
      dsimp only
      have hpc : piecesFrom repl x.cps find (k + 1) st = if st < x.cps.size then [⟨x.cps.extract st x.cps.size⟩] else [] := by
        rw [piecesFrom, hfs]
      rw [hpc] at hR hfl
      have tail : ∀ (ps' : List (Str × Tok)) (s' : Shared), h₀.StaysIn s'.heap → Heap.SameBut ls s.heap s'.heap → s'.heap.IsList ls (strValues ps').toArray → s'.gens = s.gens → s'.drawn = s.drawn → s'.os = s.os →
          ps'.map (·.1) = ps.map (·.1) ++ (if st < x.cps.size then [⟨x.cps.extract st x.cps.size⟩] else []) →
          wpAny (model prog w) A.in1 (do
            let joiner ← reSlice x.cps 0 0 0
            let __do_lift ← seqItems? (Value.ref ls)
            if (__do_lift.getD #[]).isEmpty = true then do
                let text ← pure joiner
                if false = true then do
                    let __do_lift ← holding [text] do
                        let __do_lift ← mkInt n
                        newTuple [text, __do_lift]
                    ret __do_lift
                  else ret text
              else do
                let text ← call (Value.builtin (if (0 == 0) = true then "str.join" else "bytes.join")) [joiner, Value.ref ls]
                if false = true then do
                    let __do_lift ← holding [text] do
                        let __do_lift ← mkInt n
                        newTuple [text, __do_lift]
                    ret __do_lift
                  else ret text)
            (fun fin s' => match fin with | .done f => R (.ok f) s' | .again c' => c'.quiet = true ∧ codeAny (model prog w) A c' R s') (fun e s' => R (.error e) s') s' := by
        intro ps' s' hS' hB' hL' hg hd hos hps
        rw [← hps] at hR hfl
        refine wpAny_bind (wp_slice (by lia) ?_)
        obtain ⟨o, ho, hc, nn, hdd⟩ := id hL'
        refine wpAny_bind (wpAny_seqItems ho hdd ?_)
        rw [Option.getD_some]
        have hemp : (⟨x.cps.extract 0 0⟩ : Str) = Str.empty := by
          rw [Array.extract_empty_of_stop_le_start (by lia)]; rfl
        have fin : ∀ tk t, R (.ok (.ret (.str (flatS (ps'.map (·.1))) t))) { s' with toks := tk } := fun tk t => by
          have := hR s'.heap tk t hS' hB'
          rw [← hg, ← hd, ← hos] at this
          exact this
        cases ps' with
        | nil =>
          rw [if_pos (show ((strValues []).toArray.isEmpty = true) from rfl)]
          refine wpAny_bind (wpAny_pure ?_)
          rw [if_neg Bool.false_ne_true, hemp]
          exact wpAny_pure (fin _ _)
        | cons q qs =>
          rw [if_neg (show ¬ ((strValues (q :: qs)).toArray.isEmpty = true) by simp [strValues])]
          rw [hemp]
          refine wpAny_bind ?_
          refine SC.join (s := { s' with toks := s'.toks + 1 }) hL' rfl (joinOk_flat _ hfl) fun t' k' => ?_
          rw [if_neg Bool.false_ne_true, join_is]
          exact wpAny_pure (fin _ _)
      by_cases hlt : st < x.cps.size
      · rw [if_pos hlt]
        refine wpAny_bind (wp_slice (by lia) ?_)
        refine wpAny_bind (wp_push (s := { s with toks := s.toks + 1 }) hL hlen fun h'' hB'' hL'' => ?_)
        rw [strValues_push] at hL''
        refine tail (ps ++ [(_, _)]) { s with heap := h'', toks := s.toks + 1 } (stays_sameBut hl hS hB'') hB'' hL'' rfl rfl rfl (by rw [if_pos hlt]; simp)
      · rw [if_neg hlt]
        exact tail ps s hS (Heap.SameBut.refl ..) hL rfl rfl rfl (by rw [if_neg hlt]; simp)
    | some be =>
      obtain ⟨b, e⟩ := be
      obtain ⟨h1, h2, h3⟩ := hp st b e hfs
      rw [hfs] at he
      refine wpAny_bind (wp_reRunToEnd he hN fun m' hb hh => ?_)
      dsimp only
      have hpc : piecesFrom repl x.cps find (k + 1) st = (if st < b then [⟨x.cps.extract st b⟩] else []) ++ repl :: piecesFrom repl x.cps find k e := by
        rw [piecesFrom, hfs]
      rw [hpc] at hR hfl
      have tail : ∀ (ps' : List (Str × Tok)) (s' : Shared), h₀.StaysIn s'.heap → Heap.SameBut ls s.heap s'.heap → s'.heap.IsList ls (strValues ps').toArray → ps'.length ≤ ps.length + 1 → s'.gens = s.gens → s'.drawn = s.drawn → s'.os = s.os →
          ps'.map (·.1) = ps.map (·.1) ++ (if st < b then [⟨x.cps.extract st b⟩] else []) →
          wpAny (model prog w) A.in1 (do
            let item ← pure (Value.str repl tr)
            if (item != Value.none) = true then do
                updateSeq ls fun x => x.push item
                again (Code.builtin "re.Pattern.sub.loop" { pos := [Value.ref p, Value.str x tx, Value.str repl tr, rawInt 0, rawInt 0, rawInt (n + 1), rawInt ↑m'.handed, rawInt ↑m'.handed, Value.bool (m'.handed == m'.start), Value.ref ls, Value.bool false] })
              else
                again (Code.builtin "re.Pattern.sub.loop" { pos := [Value.ref p, Value.str x tx, Value.str repl tr, rawInt 0, rawInt 0, rawInt (n + 1), rawInt ↑m'.handed, rawInt ↑m'.handed, Value.bool (m'.handed == m'.start), Value.ref ls, Value.bool false] }))
            (fun fin s' => match fin with | .done f => R (.ok f) s' | .again c' => c'.quiet = true ∧ codeAny (model prog w) A c' R s') (fun e s' => R (.error e) s') s' := by
        intro ps' s' hS' hB' hL' hlen' hg hd hos hps
        refine wpAny_bind (wpAny_pure ?_)
        rw [if_pos (show (Value.str repl tr != Value.none) = true from rfl)]
        refine wpAny_bind (wp_push hL' (by simp [strValues]; lia) fun h'' hB'' hL'' => ?_)
        refine wpAny_pure ⟨plainId_quiet plain_loop _, ?_⟩
        have hne : (m'.handed == m'.start) = false := by rw [hb, hh]; simp; lia
        rw [hne, hh]
        rw [strValues_push] at hL''
        refine IH e (n + 1) (ps' ++ [(repl, tr)]) { s' with heap := h'' } (by lia) h3 (stays_sameBut hl hS' hB'') hL'' (by simp only [List.length_append, List.length_cons, List.length_nil]; lia) ?_ ?_
        · intro h₃ tk t hS₃ hB₃
          have := hR h₃ tk t hS₃ (hB'.trans (hB''.trans hB₃))
          simp only [List.map_append, List.map_cons, List.map_nil, hps, List.append_assoc, List.cons_append, List.nil_append] at this ⊢
          rw [hg, hd, hos]
          exact this
        · simp only [List.map_append, List.map_cons, List.map_nil, hps, List.append_assoc, List.cons_append, List.nil_append] at hfl ⊢
          exact hfl
      rw [hb]
      by_cases hlt : st < b
      · rw [if_pos hlt]
        refine wpAny_bind (wp_slice (by lia) ?_)
        refine wpAny_bind (wp_push (s := { s with toks := s.toks + 1 }) hL hlen fun h'' hB'' hL'' => ?_)
        rw [strValues_push] at hL''
        rw [hb] at tail
        refine tail (ps ++ [(_, _)]) { s with heap := h'', toks := s.toks + 1 } (stays_sameBut hl hS hB'') hB'' hL'' (by simp) rfl rfl rfl (by rw [if_pos hlt]; simp)
      · rw [if_neg hlt]
        rw [hb] at tail
        exact tail ps s hS (Heap.SameBut.refl ..) hL (by lia) rfl rfl rfl (by rw [if_neg hlt]; simp)

theorem str_call_none : typeLookup (.type "str") "__call__" = pure none := by rw [typeLookup_type, builtinLookup_eq_fast]; kernel_rfl
/-- pattern.sub(text, text) -/
theorem wp_sub {p : Addr} {C : Array Nat} {x repl : Str} {tx tr : Tok} {N : Nat} (find : Nat → Option (Nat × Nat)) (P : PatAt s.heap p C)
    (hf : ∀ st, st ≤ x.cps.size → EndsAt (Sre.forSearch C x.cps 0 st x.cps.size false) (find st) N) (hN : N < 2 ^ 64) (hp : ∀ st b e, find st = some (b, e) → st ≤ b ∧ b < e ∧ e ≤ x.cps.size)
    (hx : x.cps.size ≤ 100000) (hr : repl.cps.contains 92 = false) (hfl : (flatS (piecesFrom repl x.cps find (x.cps.size + 1) 0)).cps.size ≤ sizeLine) {Q : Value → Shared → Prop}
    (hQ : ∀ h' tk t, s.heap.StaysIn h' → Q (.str (flatS (piecesFrom repl x.cps find (x.cps.size + 1) 0)) t) { s with heap := h', toks := tk }) :
    wpAny (model prog w) A (call (.builtin "re.Pattern.sub") [.ref p, .str repl tr, .str x tx]) Q E s := by
  have hT : s.TypeIs (.ref p) "re.Pattern" := by
    obtain ⟨fs, T, sl, o, items, n, h1, _⟩ := P.has
    exact ⟨_, h1, rfl⟩
  refine wpAny_call (codeAny_call_builtin slot_pat_sub.plain entry_pat_sub (slot_pat_sub.check _ _ _ _ _ _ _ _ hT (args_pat_sub _ _ _) ?_))
  unfold Builtin.«re.Pattern.sub» reSubstitute
  dsimp only
  refine wpAny_bind (wpAny_of_eq (a := [some (.str repl tr), some (.str x tx), none]) rfl ?_)
  dsimp only
  refine wpAny_bind (wpAny_pure ?_)
  refine wpAny_bind (wpAny_specialOf (typeIs_str _ _ _) str_call_none ?_)
  rw [if_neg (show ¬ ((none : Option Value).isSome = true) from Bool.false_ne_true)]
  refine wpAny_bind (wpAny_of_eq (a := some repl) rfl ?_)
  dsimp only
  refine wpAny_bind (wpAny_pure ?_)
  rw [if_neg (show ¬ ((none : Option Value).isSome = true) from Bool.false_ne_true), hr, if_pos (show (!false) = true from rfl)]
  refine wpAny_bind (wpAny_pure ?_)
  dsimp only
  refine wpAny_bind (wpAny_holding (wp_target P ?_))
  rw [if_neg (show ¬ (((0 : Int) == 1) = true) from Bool.false_ne_true)]
  refine wpAny_bind (wpAny_newList ?_ (Nat.zero_le _))
  refine wpAny_pure ⟨plainId_quiet plain_loop _, ?_⟩
  have hnew : s.heap.get? s.heap.objs.size = none := by
    cases q : s.heap.get? s.heap.objs.size with
    | none => rfl
    | some o => exact absurd (Heap.lt_size q) (Nat.lt_irrefl _)
  refine wp_subLoop (h₀ := s.heap) (N := N) find P hf hN hp hx hnew (x.cps.size + 1) 0 0 [] _ (by lia) (Nat.zero_le _) (fun b o e => Heap.get?_push_of_some _ e) ⟨_, Heap.get?_push_size _ rfl, rfl, _, rfl⟩ (by simp only [List.length_nil]; lia) ?_ hfl
  intro h' tk t hS _
  exact hQ h' tk t hS
end
end Mine
end

section
open PySem PySem.W PySem.Spec PySem.Calls PyProof.Rows
open PySem.Builtin.Re
set_option Elab.async false
set_option maxRecDepth 100000
namespace Mine
def crlfG : Bool → List Nat → List Nat
  | _, [] => []
  | true, _ :: r => crlfG false r
  | false, c :: r => if c = 13 then 13 :: 10 :: crlfG true r else if c = 10 then 13 :: 10 :: crlfG false r else c :: crlfG false r
def crlfL (l : List Nat) : List Nat := crlfG false l
theorem crlfG_t : ∀ r : List Nat, crlfG true r = crlfL (r.drop 1)
  | [] => rfl
  | _ :: _ => rfl
theorem crlfL_nil : crlfL [] = [] := rfl
theorem crlfL_cons (c : Nat) (r : List Nat) : crlfL (c :: r) = if c = 13 then 13 :: 10 :: crlfL (r.drop 1) else if c = 10 then 13 :: 10 :: crlfL r else c :: crlfL r := by rw [← crlfG_t]; rfl
def dotsL : Bool → List Nat → List Nat
  | _, [] => []
  | b, c :: r => if b && c == 46 then 46 :: 46 :: dotsL false r else c :: dotsL (c == 10) r
theorem getD_drop (text : Array Nat) (s : Nat) : text.getD s 0 = (text.toList.drop s).headD 0 := by
  rw [Array.getD_eq_getD_getElem?, ← Array.getElem?_toList, List.headD_eq_head?_getD, List.head?_drop]
theorem drop_cons {text : Array Nat} {s : Nat} (h : s < text.size) : text.toList.drop s = text.getD s 0 :: text.toList.drop (s + 1) := by
  rw [getD_drop, List.drop_eq_getElem_cons (by simpa using h)]; simp
theorem extract_list (text : Array Nat) (a b : Nat) : (text.extract a b).toList = (text.toList.drop a).take (b - a) := by
  simp [List.extract_eq_take_drop]
theorem flatS_toList (l : List Str) : (flatS l).cps.toList = l.flatMap fun x => x.cps.toList := by simp [flatS]

theorem crlf_seg (text : Array Nat) : ∀ m st, st + m = text.size → match find0 text m st with
    | none => crlfL (text.toList.drop st) = text.toList.drop st
    | some r => crlfL (text.toList.drop st) = (text.toList.drop st).take (r - st) ++ crlfL (text.toList.drop r)
  | 0, st, h => by
    rw [find0]; dsimp only
    rw [List.drop_eq_nil_of_le (by simp; lia)]; simp [crlfL_nil]
  | m + 1, st, h => by
    have hl : st < text.size := by lia
    have ih := crlf_seg text m (st + 1) (by lia)
    rw [find0]
    cases q : (text.getD st 0 == 10 || text.getD st 0 == 13) with
    | true => simp
    | false =>
      simp only [Bool.or_eq_false_iff, beq_eq_false_iff_ne] at q
      simp only [Bool.false_eq_true, if_false]
      rw [drop_cons hl, crlfL_cons, if_neg q.2, if_neg q.1]
      cases hf : find0 text m (st + 1) with
      | none => rw [hf] at ih; dsimp only at ih ⊢; rw [ih]
      | some r =>
        rw [hf] at ih; dsimp only at ih ⊢
        have hr := (find0_some hf).1
        rw [ih, show r - st = (r - (st + 1)) + 1 by lia, List.take_succ_cons]; rfl
def crlfFind (text : Array Nat) (st : Nat) : Option (Nat × Nat) := find2 text (text.size - st) st
theorem crlf_pieces {text : Array Nat} (hp : Paired text) : ∀ (k st : Nat), text.size + 1 - st ≤ k → st ≤ text.size →
    (piecesFrom ⟨#[13, 10]⟩ text (crlfFind text) k st).flatMap (fun x => x.cps.toList) = crlfL (text.toList.drop st)
  | 0, st, h, hs => by lia
  | k + 1, st, h, hs => by
    have seg := crlf_seg text (text.size - st) st (by lia)
    rw [piecesFrom]
    unfold crlfFind find2
    cases hf : find0 text (text.size - st) st with
    | none =>
      rw [hf] at seg; dsimp only at seg ⊢
      rw [seg]
      by_cases hlt : st < text.size
      · rw [if_pos hlt]
        simp only [List.flatMap_cons, List.flatMap_nil, List.append_nil]
        rw [extract_list]
        exact List.take_of_length_le (by simp)
      · rw [if_neg hlt, List.drop_eq_nil_of_le (by simp; lia)]; rfl
    | some r =>
      obtain ⟨h1, h2, h3⟩ := find0_some hf
      rw [hf] at seg; dsimp only at seg ⊢
      rw [seg]
      have hrl : r < text.size := by lia
      have pre : (if st < r then [(⟨text.extract st r⟩ : Str)] else []).flatMap (fun x => x.cps.toList) = (text.toList.drop st).take (r - st) := by
        by_cases hlt : st < r
        · rw [if_pos hlt]; simp only [List.flatMap_cons, List.flatMap_nil, List.append_nil]; exact extract_list ..
        · rw [if_neg hlt, show r - st = 0 by lia]; rfl
      rw [List.flatMap_append, List.flatMap_cons, pre]
      congr 1
      rw [drop_cons hrl, crlfL_cons]
      rcases h3 with h3 | h3
      · rw [h3]
        simp only [show ((10 : Nat) == 13) = false from rfl, Bool.false_eq_true, if_false, show ¬ (10 : Nat) = 13 by lia, if_true]
        have ih := crlf_pieces hp k (r + 1) (by lia) (by lia)
        unfold crlfFind find2 at ih
        rw [ih]; rfl
      · obtain ⟨h4, h5⟩ := hp r h3
        rw [h3]
        simp only [show ((13 : Nat) == 13) = true from rfl, if_true]
        have ih := crlf_pieces hp k (r + 2) (by lia) (by lia)
        unfold crlfFind find2 at ih
        rw [ih, List.drop_drop]; rfl

theorem bolAt_succ (text : Array Nat) (s : Nat) : bolAt text (s + 1) = (text.getD s 0 == 10) := by
  unfold bolAt
  rw [show (s + 1 == 0) = false from rfl, Bool.false_or, Nat.add_sub_cancel]
theorem dots_seg (text : Array Nat) : ∀ m st, st + m = text.size → match find1 text m st with
    | none => dotsL (bolAt text st) (text.toList.drop st) = text.toList.drop st
    | some (r, e) => e = r + 1 ∧ st ≤ r ∧ r < text.size ∧ text.getD r 0 = 46 ∧ dotsL (bolAt text st) (text.toList.drop st) = (text.toList.drop st).take (r - st) ++ 46 :: 46 :: dotsL false (text.toList.drop (r + 1))
  | 0, st, h => by
    rw [find1]; dsimp only
    rw [List.drop_eq_nil_of_le (by simp; lia)]; rw [dotsL]
  | m + 1, st, h => by
    have hl : st < text.size := by lia
    have ih := dots_seg text m (st + 1) (by lia)
    rw [find1]
    cases q : (bolAt text st && text.getD st 0 == 46) with
    | true =>
      simp only [if_true]
      have h46 : text.getD st 0 = 46 := by simp only [Bool.and_eq_true, beq_iff_eq] at q; exact q.2
      refine ⟨trivial, Nat.le_refl _, hl, h46, ?_⟩
      rw [drop_cons hl, dotsL, q, if_pos rfl, Nat.sub_self]; rfl
    | false =>
      simp only [Bool.false_eq_true, if_false]
      rw [drop_cons hl, dotsL, q, if_neg Bool.false_ne_true, ← bolAt_succ]
      cases hf : find1 text m (st + 1) with
      | none => rw [hf] at ih; dsimp only at ih ⊢; rw [ih]
      | some re =>
        obtain ⟨r, e⟩ := re
        rw [hf] at ih; dsimp only at ih ⊢
        obtain ⟨h1, h2, h3, h4, h5⟩ := ih
        refine ⟨h1, by lia, h3, h4, ?_⟩
        rw [h5, show r - st = (r - (st + 1)) + 1 by lia, List.take_succ_cons]; rfl
def dotsFind (text : Array Nat) (st : Nat) : Option (Nat × Nat) := find1 text (text.size - st) st
theorem dots_pieces {text : Array Nat} : ∀ (k st : Nat), text.size + 1 - st ≤ k → st ≤ text.size →
    (piecesFrom ⟨#[46, 46]⟩ text (dotsFind text) k st).flatMap (fun x => x.cps.toList) = dotsL (bolAt text st) (text.toList.drop st)
  | 0, st, h, hs => by lia
  | k + 1, st, h, hs => by
    have seg := dots_seg text (text.size - st) st (by lia)
    rw [piecesFrom]
    unfold dotsFind
    cases hf : find1 text (text.size - st) st with
    | none =>
      rw [hf] at seg; dsimp only at seg ⊢
      rw [seg]
      by_cases hlt : st < text.size
      · rw [if_pos hlt]
        simp only [List.flatMap_cons, List.flatMap_nil, List.append_nil]
        rw [extract_list]
        exact List.take_of_length_le (by simp)
      · rw [if_neg hlt, List.drop_eq_nil_of_le (by simp; lia)]; rfl
    | some re =>
      obtain ⟨r, e⟩ := re
      rw [hf] at seg; dsimp only at seg ⊢
      obtain ⟨rfl, h2, h3, h4, h5⟩ := seg
      rw [h5]
      have pre : (if st < r then [(⟨text.extract st r⟩ : Str)] else []).flatMap (fun x => x.cps.toList) = (text.toList.drop st).take (r - st) := by
        by_cases hlt : st < r
        · rw [if_pos hlt]; simp only [List.flatMap_cons, List.flatMap_nil, List.append_nil]; exact extract_list ..
        · rw [if_neg hlt, show r - st = 0 by lia]; rfl
      rw [List.flatMap_append, List.flatMap_cons, pre]
      congr 1
      have ih := dots_pieces (text := text) k (r + 1) (by lia) (by lia)
      unfold dotsFind at ih
      rw [ih, bolAt_succ, h4]; rfl
theorem crlf_find_ok {text : Array Nat} (hp : Paired text) (st b e : Nat) (h : crlfFind text st = some (b, e)) : st ≤ b ∧ b < e ∧ e ≤ text.size := by
  unfold crlfFind find2 at h
  cases hf : find0 text (text.size - st) st with
  | none => rw [hf] at h; cases h
  | some r =>
    obtain ⟨h1, h2, h3⟩ := find0_some hf
    rw [hf] at h
    simp only [Option.some.injEq, Prod.mk.injEq] at h
    obtain ⟨rfl, rfl⟩ := h
    rcases h3 with h3 | h3
    · rw [h3]; simp; lia
    · have := (hp _ h3).2
      rw [h3]; simp; lia
theorem dots_find_ok {text : Array Nat} (st b e : Nat) (hs : st ≤ text.size) (h : dotsFind text st = some (b, e)) : st ≤ b ∧ b < e ∧ e ≤ text.size := by
  have seg := dots_seg text (text.size - st) st (by lia)
  unfold dotsFind at h
  rw [h] at seg; dsimp only at seg
  lia
def strL (l : List Nat) : Str := ⟨l.toArray⟩
theorem crlf_str {text : Array Nat} (hp : Paired text) : flatS (piecesFrom ⟨#[13, 10]⟩ text (crlfFind text) (text.size + 1) 0) = strL (crlfL text.toList) := by
  unfold flatS strL
  rw [crlf_pieces hp _ _ (by lia) (by lia), List.drop_zero]
theorem dots_str (text : Array Nat) : flatS (piecesFrom ⟨#[46, 46]⟩ text (dotsFind text) (text.size + 1) 0) = strL (dotsL true text.toList) := by
  unfold flatS strL
  rw [dots_pieces _ _ (by lia) (by lia), List.drop_zero]; rfl
theorem crlfG_len : ∀ (b : Bool) (l : List Nat), (crlfG b l).length ≤ 2 * l.length
  | _, [] => Nat.le_refl _
  | true, _ :: r => Nat.le_trans (crlfG_len false r) (Nat.mul_le_mul_left 2 (Nat.le_succ _))
  | false, c :: r => by
    have h1 := crlfG_len true r
    have h2 := crlfG_len false r
    show (if c = 13 then 13 :: 10 :: crlfG true r else if c = 10 then 13 :: 10 :: crlfG false r else c :: crlfG false r).length ≤ 2 * (r.length + 1)
    rw [Nat.mul_succ]
    split
    · exact Nat.add_le_add_right h1 2
    · split
      · exact Nat.add_le_add_right h2 2
      · exact Nat.le_trans (Nat.add_le_add_right h2 1) (Nat.le_succ _)
theorem crlfL_len (l : List Nat) : (crlfL l).length ≤ 2 * l.length := crlfG_len false l
theorem dotsL_len : ∀ (b : Bool) (l : List Nat), (dotsL b l).length ≤ 2 * l.length
  | _, [] => by simp [dotsL]
  | b, c :: r => by
    rw [dotsL]
    split
    · have := dotsL_len false r
      simp only [List.length_cons] at this ⊢; lia
    · have := dotsL_len (c == 10) r
      simp only [List.length_cons] at this ⊢; lia
end Mine
end

section
open PySem PySem.W PySem.Spec PySem.Calls PyProof.Rows
set_option Elab.async false
set_option maxRecDepth 100000
namespace Mine
theorem k_on : (PySem.Challenge.rw_tc0001_01 = PySem.Challenge.rw_tc0001_01) ∧ (Mine.hd.heap_39 = Mine.hd.heap_39) := by
  k_fill
  exact ⟨rfl, rfl⟩

/-- a call that changes nothing that stood -/
def Calm (s : Shared) (P : Value → Heap → Prop) (v : Value) (s' : Shared) : Prop :=
  ∃ h' tk', s' = { s with heap := h', toks := tk' } ∧ s.heap.StaysIn h' ∧ P v h'
theorem fr_stay {g h h' : Heap} {L : Addr} {m : Str → Option Value} (F : Fr g L h m) (k : h.StaysIn h') : Fr g L h' m := ⟨F.ns.keeps k, fun b o e => k b o (F.keep b o e), F.above⟩
theorem news_stay {g h h' : Heap} {L : Addr} {ld : List (Addr × Obj)} (N : News g L h ld) (k : h.StaysIn h') : News g L h' ld := fun p hp => ⟨k _ _ (N p hp).1, (N p hp).2⟩

section
variable {w : World} {mean : ExcName → Option Value} {mg mb : Str → Option Value}
theorem pat1 {h : Heap} (X : (hd.heap_39 w.params).In h) : PatAt h 36 C1 :=
  ⟨⟨_, 35, _, _, _, _, X 36 _ rfl, rfl, X 35 _ rfl, rfl, by decide +kernel, rfl, rfl⟩⟩
theorem pat2 {h : Heap} (X : (hd.heap_39 w.params).In h) : PatAt h 41 C2 :=
  ⟨⟨_, 40, _, _, _, _, X 41 _ rfl, rfl, X 40 _ rfl, rfl, by decide +kernel, rfl, rfl⟩⟩
theorem getM_pat {M : Model} {A : Around} {E : Value → Shared → Prop} {s : Shared} {p : Addr} {C : Array Nat} {pl : Sem Bool} {Q : Value × List Value → Shared → Prop} (P : PatAt s.heap p C)
    (h : Q (.builtin "re.Pattern.sub", [.ref p]) s) : wpAny M A (getMethod (.ref p) "sub" pl) Q E s := by
  obtain ⟨fs, T, sl, o, items, n, h1, _⟩ := P.has
  exact getMethod_builtin ⟨_, h1, rfl⟩ plainAttrs_pat slot_pat_sub type_pat_sub (fun a e => by cases e; exact ⟨_, h1, rfl⟩) h
theorem sub_crlf {prog : Program} {A : Around} {E : Value → Shared → Prop} {s : Shared} {g : Heap} {L : Addr} {m : Str → Option Value} {ld : List (Addr × Obj)} {repl x : Str} {tr tx : Tok} {Q : Value → Shared → Prop} (P : PatAt s.heap 41 C2) (hr : repl = ⟨#[13, 10]⟩) (hp : Paired x.cps) (hx : x.cps.size ≤ 20000)
    (F : Fr g L s.heap m) (N : News g L s.heap ld) (h : ∀ h' tk t, Fr g L h' m → News g L h' ld → Q (.str (strL (crlfL x.cps.toList)) t) { s with heap := h', toks := tk }) :
    wpAny (model prog w) A (call (.builtin "re.Pattern.sub") [.ref 41, .str repl tr, .str x tx]) Q E s := by
  subst hr
  refine wp_sub (N := 9) (crlfFind x.cps) P (fun st hs => search2 _ _ hs hp) (by lia) (fun st b e q => crlf_find_ok hp st b e q) (by lia) (by decide +kernel) ?_ ?_
  · rw [crlf_str hp]
    show (crlfL x.cps.toList).toArray.size ≤ _
    have := crlfL_len x.cps.toList
    rw [List.size_toArray, sizeLine_eq]; simp at this ⊢; lia
  · rw [crlf_str hp]
    exact fun h' tk t k => h h' tk t (fr_stay F k) (news_stay N k)
theorem sub_dots {prog : Program} {A : Around} {E : Value → Shared → Prop} {s : Shared} {g : Heap} {L : Addr} {m : Str → Option Value} {ld : List (Addr × Obj)} {repl x : Str} {tr tx : Tok} {Q : Value → Shared → Prop} (P : PatAt s.heap 36 C1) (hr : repl = ⟨#[46, 46]⟩) (hx : x.cps.size ≤ 40000)
    (F : Fr g L s.heap m) (N : News g L s.heap ld) (h : ∀ h' tk t, Fr g L h' m → News g L h' ld → Q (.str (strL (dotsL true x.cps.toList)) t) { s with heap := h', toks := tk }) :
    wpAny (model prog w) A (call (.builtin "re.Pattern.sub") [.ref 36, .str repl tr, .str x tx]) Q E s := by
  subst hr
  refine wp_sub (N := 200000) (dotsFind x.cps) P (fun st hs => (search1 _ _ hs).mono (by lia)) (by lia) ?_ (by lia) (by decide +kernel) ?_ ?_
  · intro st b e q
    by_cases hs : st ≤ x.cps.size
    · exact dots_find_ok st b e hs q
    · exfalso
      unfold dotsFind at q
      rw [show x.cps.size - st = 0 by lia] at q; cases q
  · rw [dots_str]
    show (dotsL true x.cps.toList).toArray.size ≤ _
    have := dotsL_len true x.cps.toList
    rw [List.size_toArray, sizeLine_eq]; simp at this ⊢; lia
  · rw [dots_str]
    exact fun h' tk t k => h h' tk t (fr_stay F k) (news_stay N k)

theorem kw_Q1_1 : True := by
  k_with_none
  k_with "go_in" => (k_dflt (refine' enter [] ?X ?T ?st ?hm ?ho ?hcd ?hroom ?hbind ?hloc ?hcell ?h ?hco ?hgen ?hk; (case X => assumption); (case T => assumption); (case st => assumption); (case hm => exact fun _ h => nomatch h); (case ho => k_is); (case hcd => k_is); (case hroom => omega); (case hbind => exact rfl); (case hloc => exact locs rfl); (case hcell => decide); (case hco => exact rfl); (case hgen => exact rfl); (case hk => exact rfl)))
  k_with "getMethod ref" => (k_here; k_dflt (first | refine getM_pat (pat1 (by k_in)) ?_ | refine getM_pat (pat2 (by k_in)) ?_))
  k_with "call builtin:re.Pattern.sub" => (k_here; k_dflt (first | (refine sub_crlf (pat2 (by k_in)) (by decide +kernel) (by assumption) (by omega) (by k_asm) (by k_asm) ?_; intro _ _ _ _ _) | (refine sub_dots (pat1 (by k_in)) (by decide +kernel) (by assumption) (by k_asm) (by k_asm) ?_; intro _ _ _ _ _)))
  trivial

set_option maxHeartbeats 4000000 in
theorem quote_spec {A : Around} {s : Shared} {G : Heap} (X : (hd.heap_39 w.params).In G) (T : Top PV LO mean mg mb G) (st : G.StaysIn s.heap) (hd : A.depth + 1 < recursionLimit) (x : Str) (tx : Tok) (hp : Paired x.cps) (hx : x.cps.size ≤ 20000) :
    wpAny (MD w) A (call (.ref 48) [.str x tx]) (Calm s fun v _ => ∃ t, v = .str (strL (dotsL true (crlfL x.cps.toList))) t) NE s := by
  have hx2 : (strL (crlfL x.cps.toList)).cps.size ≤ 40000 := by
    have := crlfL_len x.cps.toList
    show (crlfL x.cps.toList).toArray.size ≤ _
    rw [List.size_toArray]; simp at this; lia
  walk_at "go_in"
  intro g L h₁ hg hg' hL F N X' T'
  dsimp only
  k_fold
  k_steps
  (rename Fr _ _ _ _ => F9)
  exact ⟨_, _, rfl, fun a o e => F9.keep _ _ (hg _ _ e (fun h => nomatch h)), _, rfl⟩
end
theorem kw_Q1_z : True := by
  k_with_none
  trivial
end Mine
end

section
open PySem PySem.W PySem.Spec PySem.Calls PyProof.Rows
set_option Elab.async false
set_option maxRecDepth 100000
namespace Mine
/-- a goal laid by -/
def Hold (P : Prop) : Prop := P
theorem Hold.out {P : Prop} (h : Hold P) : P := h
theorem Hold.mk {P : Prop} (h : P) : Hold P := h
abbrev liObj (l : Addr) (i : Nat) : Obj := { cls := .type "list_iterator", data := .fields #[.ref l, .int i 0] }
theorem liObj_iter {h : Heap} {it l : Addr} {i : Nat} (e : h.get? it = some (liObj l i)) : h.IsListIter it l i := ⟨_, e, rfl, rfl⟩
theorem norm1 {m : Str → Option Value} {a : Str} {x : Value} (ha : m a = some x) : m = fun y => if y = a then some x else m y := by
  funext y; by_cases h : y = a
  · rw [if_pos h, h, ha]
  · rw [if_neg h]
section
variable {prog : Program} {w : World} {A : Around} {E : Value → Shared → Prop} {s : Shared}
theorem next_raw {it l : Addr} {i : Nat} {items : Array Value} {x : Value} {Q : Value → Shared → Prop} (hit : s.heap.get? it = some (liObj l i)) (hl : s.heap.IsList l items) (hx : items[i]? = some x)
    (h : ∀ h', h'.get? it = some (liObj l (i + 1)) → Heap.SameBut it s.heap h' → Q x { s with heap := h' }) :
    wpAny (model prog w) A (call (.builtin "next") [.ref it]) Q E s := by
  have hI := liObj_iter hit
  obtain ⟨ol, hol, _, nl, hdl⟩ := hl
  refine call_function_entry (by decide +kernel) (by decide +kernel) kdk_entry_next (kdk_args_next _) ?_
  unfold Builtin.«next»
  refine wpAny_bind (m := someArgs "next" 1 2 _) (wpAny_of_eq (a := [Value.ref it]) (by first | rfl | kernel_rfl!) ?_)
  dsimp only
  refine wpAny_bind (wpAny_specialOf (name := Str.ofString "__next__") hI.typeIs slot_listiter_next.lookup ?_)
  refine wpAny_ite_split (fun hab => absurd hab (by decide)) (fun _ => ?_)
  refine wpAny_bind (wpAny_callSpecial?_slot (name := Str.ofString "__next__") hI.typeIs slot_listiter_next
    (wpAny_call_entry slot_listiter_next hI.typeIs entry_listiter_next ?_ (args_listiter_next _)))
  show wpAny _ _ (field (.ref it) 0 >>= _) _ _ s
  refine wpAny_bind (wpAny_field hit rfl (x := .ref l) rfl ?_)
  show wpAny _ _ (if (Value.ref l == Value.none) = true then _ else _) _ _ s
  rw [if_neg (show ¬ ((Value.ref l == Value.none) = true) from Bool.false_ne_true)]
  show wpAny _ _ (field (.ref it) 1 >>= _) _ _ s
  refine wpAny_bind (wpAny_field hit rfl (x := .int i 0) rfl ?_)
  show wpAny _ _ (seqItems? (.ref l) >>= _) _ _ s
  refine wpAny_bind (wpAny_seqItems hol hdl ?_)
  simp only [Int.toNat_natCast, hx]
  refine wpAny_bind (wpAny_setField hit rfl (by simp) (wpAny_pure ⟨x, rfl, wpAny_pure ⟨_, rfl, h _ ?_ (Heap.SameBut.update ..)⟩⟩))
  rw [Heap.get?_update_self _ hit rfl]; rfl
theorem next_N1 {g : Heap} {L : Addr} {m : Str → Option Value} {it l : Addr} {i : Nat} {items : Array Value} {x : Value} {Q : Value → Shared → Prop} (F : Fr g L s.heap m) (N : News g L s.heap [(it, liObj l i)]) (hl : g.IsList l items) (hx : items[i]? = some x)
    (h : ∀ h', Fr g L h' m → News g L h' [(it, liObj l (i + 1))] → Q x { s with heap := h' }) :
    wpAny (model prog w) A (call (.builtin "next") [.ref it]) Q E s := by
  have n := N _ (.head _)
  refine next_raw n.1 (hl.at fun o e => F.keep l o e) hx fun h' he hb => h h' (F.change hb n.2.1 n.2.2) fun p hp => ?_
  rw [List.mem_singleton.mp hp]
  exact ⟨he, n.2⟩
end

def varint (fs : List Int) : Int := fs.foldl (fun v f => v * 64 + f % 64) 0
theorem and63 {f : Int} (h0 : 0 ≤ f) (h1 : f < 128) : Builtin.bitAnd f 63 = f % 64 := by
  have : ∀ n : Nat, n < 128 → Builtin.bitAnd (n : Int) 63 = (n : Int) % 64 := by decide +kernel
  obtain ⟨n, rfl⟩ := Int.eq_ofNat_of_zero_le h0
  exact this n (by lia)
theorem and64 {f : Int} (h0 : 0 ≤ f) (h1 : f < 128) : (Builtin.bitAnd f 64 != 0) = decide (64 ≤ f) := by
  have : ∀ n : Nat, n < 128 → (Builtin.bitAnd (n : Int) 64 != 0) = decide (64 ≤ (n : Int)) := by decide +kernel
  obtain ⟨n, rfl⟩ := Int.eq_ofNat_of_zero_le h0
  exact this n (by lia)
theorem or64 {v r : Int} (h0 : 0 ≤ v) (h1 : 0 ≤ r) (h2 : r < 64) : Builtin.bitOr (v * 2 ^ (6 : Int).toNat) r = v * 64 + r := by
  obtain ⟨a, rfl⟩ := Int.eq_ofNat_of_zero_le h0
  obtain ⟨b, rfl⟩ := Int.eq_ofNat_of_zero_le h1
  have e : ((a : Int) * (2 : Int) ^ (6 : Int).toNat) = ((a <<< 6 : Nat) : Int) := by rw [Nat.shiftLeft_eq, Int.natCast_mul]; rfl
  rw [e]
  unfold Builtin.bitOr
  have n1 : ∀ n : Nat, Builtin.bitNot (n : Int) = -(n : Int) - 1 := fun n => by unfold Builtin.bitNot; lia
  have n2 : ∀ z : Int, Builtin.bitNot (Builtin.bitNot z) = z := fun z => by unfold Builtin.bitNot; lia
  unfold Builtin.bitAnd
  rw [decide_eq_false (show ¬ (0 : Int) ≤ Builtin.bitNot ((a <<< 6 : Nat) : Int) by rw [n1]; lia), decide_eq_false (show ¬ (0 : Int) ≤ Builtin.bitNot (b : Int) by rw [n1]; lia)]
  simp only [n2, Int.toNat_natCast]
  rw [← Nat.shiftLeft_add_eq_or_of_lt (show b < 2 ^ 6 by lia), Nat.shiftLeft_eq]
  lia
theorem varint_bound : ∀ (fs : List Int) (v : Int) (k : Nat), 0 ≤ v → v < 64 ^ k → 0 ≤ fs.foldl (fun v f => v * 64 + f % 64) v ∧ fs.foldl (fun v f => v * 64 + f % 64) v < 64 ^ (k + fs.length)
  | [], v, k, h0, h1 => ⟨h0, h1⟩
  | f :: r, v, k, h0, h1 => by
    have := varint_bound r (v * 64 + f % 64) (k + 1) (by lia) (by rw [Int.pow_succ]; lia)
    rw [List.foldl_cons, List.length_cons, show k + (r.length + 1) = k + 1 + r.length by lia]
    exact this
theorem varint_small {fs : List Int} (h : fs.length ≤ 8) : 0 ≤ varint fs ∧ (varint fs).natAbs < 2 ^ 64 := by
  have := varint_bound fs 0 0 (by lia) (by decide)
  unfold varint
  have h2 : (64 : Int) ^ (0 + fs.length) ≤ 64 ^ 8 := by
    rw [Nat.zero_add]
    have : (64 : Nat) ^ fs.length ≤ 64 ^ 8 := Nat.pow_le_pow_right (by decide) h
    exact_mod_cast this
  have h3 : (64 : Int) ^ 8 = 281474976710656 := by decide
  lia
theorem varint_snoc (fs : List Int) (f : Int) : varint (fs ++ [f]) = varint fs * 64 + f % 64 := by
  unfold varint; rw [List.foldl_append]; rfl
theorem varint_take {fs : List Int} {i : Nat} (h : i < fs.length) : varint (fs.take (i + 1)) = varint (fs.take i) * 64 + fs.getD i 0 % 64 := by
  rw [List.take_add_one, List.getElem?_eq_getElem h, Option.toList_some, varint_snoc]
  simp [List.getD, h]
inductive VarPost (s : Shared) (it : Addr) (fs : List Int) (v : Value) (s' : Shared) : Prop
  | mk : ∀ h' tk' t, s' = { s with heap := h', toks := tk' } → (∀ a o, a ≠ it → s.heap.get? a = some o → h'.get? a = some o) → v = .int (varint fs) t → VarPost s it fs v s'
section
variable {w : World} {mean : ExcName → Option Value} {mg mb : Str → Option Value}
theorem kw_V1_1 : True := by
  k_with_none
  k_with "call builtin:next" => (k_here; k_dflt (refine next_N1 (by k_asm) (by k_asm) (by assumption) (by assumption) ?_; intro _ _ _))
  k_with "inplaceOp LShift" => (k_here; k_dflt (refine ilshift_int_small (by decide) (by decide) (by assumption) ?_))
  k_with "exec While" => (k_here; refine Hold.out ?_)
  trivial
inductive varJ (it l : Addr) (fs : List Int) (n : Nat) (m : Str → Option Value) (ld : List (Addr × Obj)) : Prop
  | mk : ∀ i t1 t2, n = fs.length - i → 1 ≤ i → i ≤ fs.length → ld = [(it, liObj l i)] → m "iterator" = some (.ref it) → m "b" = some (.int (fs.getD (i - 1) 0) t1) → m "val" = some (.int (varint (fs.take i)) t2) → varJ it l fs n m ld
set_option maxHeartbeats 4000000 in
theorem varint_spec {A : Around} {s : Shared} {G : Heap} (X : (hd.heap_39 w.params).In G) (T : Top PV LO mean mg mb G) (st : G.StaysIn s.heap) (hd : A.depth + 1 < recursionLimit) {it l : Addr} {vs : List Value} {fs : List Int}
    (hit : s.heap.get? it = some (liObj l 0)) (hG : G.get? it = none) (hl : s.heap.IsList l vs.toArray) (hv : IntsAre vs fs) (hn : fs ≠ []) (h0 : ∀ f ∈ fs, 0 ≤ f ∧ f < 128) (hlen : fs.length ≤ 8) (h1 : ∀ i, i + 1 < fs.length → 64 ≤ fs.getD i 0) (h2 : fs.getD (fs.length - 1) 0 < 64) :
    wpAny (MD w) A (call (.ref 55) [.ref it]) (VarPost s it fs) NE s := by
  have hne : l ≠ it := fun e => by
    obtain ⟨o, ho, hc, _⟩ := hl
    rw [e, hit] at ho; cases ho; exact absurd (Value.type.inj hc) (by decide)
  have hget : ∀ i, i < fs.length → ∃ t, vs.toArray[i]? = some (.int (fs.getD i 0) t) := fun i hi => by
    obtain ⟨t, h⟩ := hv.get i (fs.getD i 0) (by simp [List.getD, hi])
    exact ⟨t, by simpa using h⟩
  have hrange : ∀ i, i < fs.length → 0 ≤ fs.getD i 0 ∧ fs.getD i 0 < 128 := fun i hi => by
    have := h0 (fs.getD i 0) (by simp [List.getD, hi])
    exact this
  (k_dflt (refine' enter [(it, liObj l 0)] ?X ?T ?st ?hm ?ho ?hcd ?hroom ?hbind ?hloc ?hcell ?h ?hco ?hgen ?hk; (case X => assumption); (case T => assumption); (case st => assumption); (case hm => (intro p hp; rw [List.mem_singleton.mp hp]; exact ⟨hit, hG⟩)); (case ho => k_is); (case hcd => k_is); (case hroom => lia); (case hbind => exact rfl); (case hloc => exact locs rfl); (case hcell => decide); (case hco => exact rfl); (case hgen => exact rfl); (case hk => exact rfl)))
  intro g L h₁ hg hg' hL F N X' T'
  have hlg : g.IsList l vs.toArray := by
    obtain ⟨o, ho, r⟩ := hl
    exact ⟨o, hg _ _ ho (by simp [hne]), r⟩
  have hl1 : 0 < fs.length := by cases fs with | nil => exact absurd rfl hn | cons f r => simp
  obtain ⟨t0, hx0⟩ := hget 0 hl1
  show wpAny _ _ _ _ _ _
  dsimp only
  k_fold
  k_steps
  refine Hold.mk ?_
  (rename Fr _ _ _ _ => F2)
  (rename News _ _ _ _ => N2)
  have e0 : Builtin.bitAnd (fs.getD 0 0) 63 = varint (fs.take 1) := by
    rw [varint_take hl1, and63 (hrange 0 hl1).1 (hrange 0 hl1).2]; simp [varint]
  refine While_inv2 (varJ it l fs) (n₀ := fs.length - 1) F2 N2 ?hJ ?turn PassesOwn.never
  case hJ => exact ⟨1, _, _, rfl, Nat.le_refl _, hl1, rfl, rfl, rfl, by rw [← e0]; rfl⟩
  case turn =>
    clear F2 N2
    intro n m₁ ld₁ h₂ tk₂ F N zzJ
    refine hidden fun zzG zzH => ?_
    obtain ⟨i, t1, t2, rfl, hi1, hi2, rfl, ha, hb, hc⟩ := zzJ
    rw [norm1 hc] at F
    rw [norm1 hb] at F
    rw [norm1 ha] at F
    have hsm := varint_small (fs := fs.take i) (by simp; lia)
    have hsm2 := hsm.2
    have hr1 := hrange (i - 1) (by lia)
    have ht := and64 hr1.1 hr1.2
    by_cases hlt : i < fs.length
    · have hb64 := h1 (i - 1) (by lia)
      rw [decide_eq_true hb64] at ht
      obtain ⟨t3, hx⟩ := hget i hlt
      have hr2 := hrange i hlt
      have e1 : Builtin.bitOr (varint (fs.take i) * 2 ^ (6 : Int).toNat) (Builtin.bitAnd (fs.getD i 0) 63) = varint (fs.take (i + 1)) := by
        rw [and63 hr2.1 hr2.2, or64 hsm.1 (by lia) (by lia), varint_take hlt]
      refine zzH ?_
      clear zzH zzG
      show wpAny _ _ _ _ _ _
      k_fold
      k_steps
      (rename Fr _ _ _ _ => F9)
      (rename News _ _ _ _ => N9)
      exact ⟨_, _, _, _, fs.length - (i + 1), rfl, F9, N9, by lia, i + 1, _, _, rfl, by lia, by lia, rfl, rfl, rfl, by rw [← e1]; rfl⟩
    · have hie : i = fs.length := by lia
      rw [decide_eq_false (show ¬ 64 ≤ fs.getD (i - 1) 0 by rw [hie]; lia)] at ht
      refine zzH ?_
      clear zzH zzG
      show wpAny _ _ _ _ _ _
      k_fold
      k_steps
      (rename Fr _ _ _ _ => F9)
      exact ⟨_, _, _, rfl, fun a o ne e => F9.keep _ _ (hg _ _ e (by simp [ne])), by rw [show fs.take i = fs by rw [hie, List.take_length]]⟩
end
theorem kw_V1_z : True := by
  k_with_none
  trivial
end Mine
end

section
open PySem PySem.W PySem.Spec PySem.Calls PyProof.Rows
set_option Elab.async false
set_option maxRecDepth 100000
namespace Mine

section
variable {w : World} {mean : ExcName → Option Value} {mg mb : Str → Option Value}
def sgn (x y : Str) : Int := b2i (decide (y.cps.toList < x.cps.toList)) - b2i (decide (x.cps.toList < y.cps.toList))

theorem kw_T4_1 : True := by
  k_with_none
  k_with "go_in" => (k_dflt (refine' enter [] ?X ?T ?st ?hm ?ho ?hcd ?hroom ?hbind ?hloc ?hcell ?h ?hco ?hgen ?hk; (case X => assumption); (case T => assumption); (case st => assumption); (case hm => exact fun _ h => nomatch h); (case ho => k_is); (case hcd => k_is); (case hroom => omega); (case hbind => exact rfl); (case hloc => exact locs rfl); (case hcell => decide); (case hco => exact rfl); (case hgen => exact rfl); (case hk => exact rfl)))
  trivial

set_option maxHeartbeats 4000000 in
theorem strcoll_spec {A : Around} {s : Shared} {G : Heap} (X : (hd.heap_39 w.params).In G) (T : Top PV LO mean mg mb G) (st : G.StaysIn s.heap) (hd : A.depth + 1 < recursionLimit) (x y : Str) (tx ty : Tok) :
    wpAny (MD w) A (call (.ref 76) [.str x tx, .str y ty]) (Calm s fun v _ => ∃ t, v = .int (sgn x y) t) NE s := by
  walk_at "go_in"
  intro g L h₁ hg hg' hL F N X' T'
  dsimp only
  k_fold
  k_steps
  exact ⟨_, _, rfl, fun a o e => F.keep _ _ (hg _ _ e (fun h => nomatch h)), _, rfl⟩
end
theorem kw_T4_z : True := by
  k_with_none
  trivial
end Mine
end

section
open PySem PySem.W PySem.Spec PySem.Calls PyProof.Rows
set_option Elab.async false
set_option maxRecDepth 100000
namespace Mine
def ForStep (g : Heap) (L : Addr) (s : Shared) (J : Nat → (Str → Option Value) → List (Addr × Obj) → Prop) (it : Addr) (itO : Obj) (Q : Flow → Shared → Prop) (i : Nat) (f : Flow) (s₃ : Shared) : Prop :=
  match f with
  | .next | .cont => ∃ h' tk m₂ ld₂, s₃ = { s with heap := h', toks := tk } ∧ Fr g L h' m₂ ∧ News g L h' ((it, itO) :: ld₂) ∧ (∀ p ∈ ld₂, p.1 ≠ it) ∧ J (i + 1) m₂ ld₂
  | .brk => Q .next s₃
  | .ret v => Q (.ret v) s₃
section
variable {prog : Program} {w : World} {A : Around} {s : Shared} {env : Env} {Q : Flow → Shared → Prop} {g : Heap} {L : Addr}
theorem fr_ext {h h' : Heap} {m : Str → Option Value} {b : Addr} (F : Fr g L h m) (hs : Heap.ExtBut b h h') (hb : b ≠ L) (hg : g.get? b = none) : Fr g L h' m := by
  obtain ⟨oL, es, ep, hL, r⟩ := F.ns
  exact ⟨⟨oL, es, ep, hs _ _ (Ne.symm hb) hL, r⟩, fun a o e => hs a o (fun q => by rw [q, hg] at e; cases e) (F.keep a o e), F.above⟩
theorem news_ext {h h' : Heap} {ld : List (Addr × Obj)} {b : Addr} (N : News g L h ld) (hs : Heap.ExtBut b h h') (hb : ∀ p ∈ ld, p.1 ≠ b) : News g L h' ld :=
  fun p hp => ⟨hs _ _ (hb p hp) (N p hp).1, (N p hp).2⟩
theorem news_tail {h : Heap} {ld : List (Addr × Obj)} {p : Addr × Obj} (N : News g L h (p :: ld)) : News g L h ld := fun q hq => N q (.tail _ hq)

/-- a for over a list object, by an invariant over the frame's map and the ledger -/
theorem loop_list2 {x : Str} {px : Pos} {body : List Stmt} {l : Addr} {items : Array Value} {m : Str → Option Value} {ld : List (Addr × Obj)} (J : Nat → (Str → Option Value) → List (Addr × Obj) → Prop)
    (hh : A.handled = none) (hkx : env.kindOf x = some .local) (hlo : env.locals = L) (hcls : (env.scope.kind == .class || (env.scope.kind == .module && env.locals != env.globals)) = false)
    (F : Fr g L s.heap m) (N : News g L s.heap ld) (hJ : J 0 m ld)
    (hL : ∀ h m' ld' i, J i m' ld' → Fr g L h m' → News g L h ld' → h.IsList l items)
    (turn : ∀ i v m₁ ld₁ it itO h₁ tk₁, items[i]? = some v → J i m₁ ld₁ → it ≠ l → (∀ p ∈ ld₁, p.1 ≠ it) → (∀ p ∈ ld, p.1 < it) → itO.cls = .type "list_iterator" → Fr g L h₁ (fun y => if y = x then some v else m₁ y) → News g L h₁ ((it, itO) :: ld₁) →
      wpAny (model prog w) A (execs body env) (ForStep g L s J it itO Q i) NE { s with heap := h₁, toks := tk₁ })
    (done : ∀ m₁ ld₁ h₁ tk₁, J items.size m₁ ld₁ → Fr g L h₁ m₁ → News g L h₁ ld₁ → Q .next { s with heap := h₁, toks := tk₁ }) :
    wpAny (model prog w) A (pyIter (.ref l)) (fun it s₂ => codeAny (model prog w) A (.forLoop (.Name x px) it body [] env) (fun r s' => match r with | .ok f => Q f s' | .error e => cameBackBy (model prog w) A env NE e s') s₂) NE s := by
  subst hlo
  have hls := hL _ _ _ _ hJ F N
  obtain ⟨ol, hol, hcl, _⟩ := id hls
  have hlit : s.heap.objs.size ≠ l := Nat.ne_of_gt (Heap.lt_size hol)
  have hitL : s.heap.objs.size ≠ env.locals := by
    obtain ⟨oL, _, _, hoL, _⟩ := F.ns
    exact Nat.ne_of_gt (Heap.lt_size hoL)
  have hitg : g.get? s.heap.objs.size = none := by
    cases q : g.get? s.heap.objs.size with
    | none => rfl
    | some o => exact absurd (Heap.lt_size (F.keep _ _ q)) (Nat.lt_irrefl _)
  have hlt : ∀ p ∈ ld, p.1 < s.heap.objs.size := fun p hp => Heap.lt_size (N p hp).1
  refine wpAny_pyIter_list hls ?_
  refine codeAny_forLoop (fun n s' => ∃ i m₁ ld₁ h₁ tk₁ itO, (itO.cls = .type "list_iterator" ∧ itO.data = .fields #[.ref l, .int i 0]) ∧ n = items.size - i ∧ i ≤ items.size ∧ s' = { s with heap := h₁, toks := tk₁ } ∧ J i m₁ ld₁ ∧ Fr g env.locals h₁ m₁ ∧ News g env.locals h₁ ((s.heap.objs.size, itO) :: ld₁) ∧ ∀ p ∈ ld₁, p.1 ≠ s.heap.objs.size) ?_ items.size ?_ (fun _ => rfl)
  · rintro n s' ⟨i, m₁, ld₁, h₁, tk₁, itO, hit0, rfl, hi, rfl, hJ₁, F₁, N₁, hne⟩
    have hit : h₁.IsListIter s.heap.objs.size l i := ⟨itO, (N₁ _ (.head _)).1, hit0⟩
    have hl₁ := hL _ _ _ _ hJ₁ F₁ (news_tail N₁)
    cases hx : items[i]? with
    | none =>
      have hie : i = items.size := by
        have := Array.getElem?_eq_none_iff.mp hx; omega
      refine wpAny_mono (wpAny_pyNext_list_end (E := NE) (s := { s with heap := h₁, toks := tk₁ }) hh hit hl₁ hx (fun h' hs => ?_)) (fun r s₁ q => q) fun _ _ y => y.elim
      refine wpAny_execs_nil ?_
      rw [hie] at hJ₁
      exact done m₁ ld₁ h' tk₁ hJ₁ (fr_ext F₁ hs hitL hitg) (news_ext (news_tail N₁) hs hne)
    | some v =>
      have hilt : i < items.size := by
        by_cases q : i < items.size
        · exact q
        · rw [Array.getElem?_eq_none_iff.mpr (Nat.not_lt.mp q)] at hx; cases hx
      refine wpAny_mono (wpAny_pyNext_list_item (E := NE) (s := { s with heap := h₁, toks := tk₁ }) hit hl₁ hx (fun h' hi' hs => ?_)) (fun r s₁ q => q) fun _ _ y => y.elim
      obtain ⟨itO', hit', hit1⟩ := hi'
      have F' := F₁.change hs hitL hitg
      have N' : News g env.locals h' ld₁ := news_ext (news_tail N₁) (Heap.SameBut.extBut hs) hne
      refine wpAny_assign_Name (wpAny_storeName_local hkx F'.ns (fun h'' hn hs' => ?_) hcls)
      have hit'' : h''.get? s.heap.objs.size = some itO' := (hs'.2 _ hitL).trans hit'
      have N'' : News g env.locals h'' ((s.heap.objs.size, itO') :: ld₁) := fun p hp => by
        rcases List.mem_cons.mp hp with rfl | hp
        · exact ⟨hit'', hitL, hitg⟩
        · exact (N'.set hs') p hp
      refine wpAny_mono (turn i v m₁ ld₁ s.heap.objs.size itO' h'' (tk₁ + 1) hx hJ₁ hlit hne hlt hit1.1 (F'.set hn hs') N'') (fun f s₃ q => ?_) fun _ _ y => y.elim
      cases f with
      | next =>
        obtain ⟨h₃, tk₃, m₂, ld₂, rfl, F₂, N₂, hne₂, hJ₂⟩ := q
        exact ⟨items.size - (i + 1), by omega, i + 1, m₂, ld₂, h₃, tk₃, itO', hit1, rfl, hilt, rfl, hJ₂, F₂, N₂, hne₂⟩
      | cont =>
        obtain ⟨h₃, tk₃, m₂, ld₂, rfl, F₂, N₂, hne₂, hJ₂⟩ := q
        exact ⟨items.size - (i + 1), by omega, i + 1, m₂, ld₂, h₃, tk₃, itO', hit1, rfl, hilt, rfl, hJ₂, F₂, N₂, hne₂⟩
      | brk => exact q
      | ret v => exact q
  · refine ⟨0, m, ld, _, _, liObj l 0, ⟨rfl, rfl⟩, rfl, Nat.zero_le _, rfl, hJ, F.push _, fun p hp => ?_, fun p hp => Nat.ne_of_lt (hlt p hp)⟩
    rcases List.mem_cons.mp hp with rfl | hp
    · exact ⟨Heap.get?_push_size _ rfl, hitL, hitg⟩
    · exact ⟨Heap.get?_push_of_some _ (N p hp).1, (N p hp).2⟩
theorem loop_list {x : Str} {px : Pos} {body : List Stmt} {l : Addr} {items : Array Value} {m : Str → Option Value} {ld : List (Addr × Obj)} (J : Nat → (Str → Option Value) → List (Addr × Obj) → Prop)
    (hh : A.handled = none) (hkx : env.kindOf x = some .local) (hlo : env.locals = L) (hcls : (env.scope.kind == .class || (env.scope.kind == .module && env.locals != env.globals)) = false)
    (F : Fr g L s.heap m) (N : News g L s.heap ld) (hJ : J 0 m ld)
    (hL : ∀ h m' ld' i, J i m' ld' → Fr g L h m' → News g L h ld' → h.IsList l items)
    (turn : ∀ i v m₁ ld₁ it itO h₁ tk₁, items[i]? = some v → J i m₁ ld₁ → it ≠ l → (∀ p ∈ ld₁, p.1 ≠ it) → (∀ p ∈ ld, p.1 < it) → Fr g L h₁ (fun y => if y = x then some v else m₁ y) → News g L h₁ ((it, itO) :: ld₁) →
      wpAny (model prog w) A (execs body env) (ForStep g L s J it itO Q i) NE { s with heap := h₁, toks := tk₁ })
    (done : ∀ m₁ ld₁ h₁ tk₁, J items.size m₁ ld₁ → Fr g L h₁ m₁ → News g L h₁ ld₁ → Q .next { s with heap := h₁, toks := tk₁ }) :
    wpAny (model prog w) A (pyIter (.ref l)) (fun it s₂ => codeAny (model prog w) A (.forLoop (.Name x px) it body [] env) (fun r s' => match r with | .ok f => Q f s' | .error e => cameBackBy (model prog w) A env NE e s') s₂) NE s :=
  loop_list2 J hh hkx hlo hcls F N hJ hL (fun i v m₁ ld₁ it itO h₁ tk₁ a b c d e _ => turn i v m₁ ld₁ it itO h₁ tk₁ a b c d e) done
end
end Mine
end

section
open PySem PySem.W PySem.Spec PySem.Calls PyProof.Rows
open PySem.Builtin PySem.Builtin.Str
set_option Elab.async false
set_option maxRecDepth 100000
namespace Mine
theorem getD_app_l {a b : List Nat} {i : Nat} (h : i < a.length) : (a ++ b).getD i 0 = a.getD i 0 := by
  rw [List.getD_eq_getElem?_getD, List.getD_eq_getElem?_getD, List.getElem?_append_left h]
theorem getD_app_r {a b : List Nat} {i : Nat} (h : a.length ≤ i) : (a ++ b).getD i 0 = b.getD (i - a.length) 0 := by
  rw [List.getD_eq_getElem?_getD, List.getD_eq_getElem?_getD, List.getElem?_append_right h]
theorem drop_row (r R : List Nat) (x y : Nat) : (r ++ x :: y :: R).drop (r.length + 2) = R := by
  rw [List.drop_append, List.drop_eq_nil_of_le (by lia), show r.length + 2 - r.length = 2 by lia]; rfl
abbrev crlfS : Str := ⟨#[13, 10]⟩
theorem subAt_crlf {x : Str} {i : Nat} (hp : Paired x.cps) (h : i + 2 ≤ x.cps.size) : subAt x crlfS i = (x.cps.getD i 0 == 13) := by
  rw [StrLaws.subAt_eq]
  rw [drop_cons (show i < x.cps.size by lia), drop_cons (show i + 1 < x.cps.size by lia)]
  show ((x.cps.getD i 0 :: x.cps.getD (i + 1) 0 :: _ : List Nat) == [13, 10]) = _
  rw [List.take_zero]
  by_cases q : x.cps.getD i 0 = 13
  · rw [q, (hp i q).1]; rfl
  · rw [beq_eq_false_iff_ne.mpr q]
    apply beq_eq_false_iff_ne.mpr
    intro e; injection e with e _; exact q e
theorem occ_fold {x : Str} (hp : Paired x.cps) (limit : Nat) : ∀ (n a : Nat) (st : Array Nat × Nat), a + n = x.cps.size + 1 → st.1.size + n ≤ limit → (∀ i, a ≤ i → x.cps.getD i 0 = 13 → st.2 ≤ i) →
    (forIn (List.range' a n) st (StrLaws.occBody x crlfS x.length limit)).run.fst.toList = st.1.toList ++ (List.range' a n).filter (fun i => x.cps.getD i 0 == 13)
  | 0, a, st, _, _, _ => by simp
  | n + 1, a, st, ha, hl, hf => by
    rw [List.range'_succ, List.forIn_cons]
    unfold StrLaws.occBody
    have hx : x.length = x.cps.size := rfl
    by_cases q : x.cps.getD a 0 = 13
    · obtain ⟨q1, q2⟩ := hp a q
      have hs : subAt x crlfS a = true := by rw [subAt_crlf hp (by lia), q]; rfl
      have hc : (st.fst.size < limit ∧ st.snd ≤ a) ∧ a + crlfS.length ≤ x.length := ⟨⟨by lia, hf a (Nat.le_refl _) q⟩, by show a + 2 ≤ _; lia⟩
      rw [if_pos ⟨hc, hs⟩]
      have ih := occ_fold hp limit n (a + 1) (st.1.push a, a + crlfS.length) (by lia) (by simp only [Array.size_push]; lia) (fun i hi h13 => by
        show a + 2 ≤ i
        by_cases e : i = a + 1
        · rw [e, q1] at h13; cases h13
        · lia)
      rw [List.filter_cons_of_pos (by rw [q]; rfl)]
      refine Eq.trans ih ?_
      simp
    · have hs : ¬ (((st.fst.size < limit ∧ st.snd ≤ a) ∧ a + crlfS.length ≤ x.length) ∧ subAt x crlfS a = true) := fun h => by
        have h2 : a + 2 ≤ x.cps.size := h.1.2
        rw [subAt_crlf hp h2] at h
        exact q (beq_iff_eq.mp h.2)
      rw [if_neg hs]
      have ih := occ_fold hp limit n (a + 1) (st.1, st.2) (by lia) (show st.1.size + n ≤ limit by lia) (fun i hi h13 => hf i (by lia) h13)
      rw [List.filter_cons_of_neg (by simpa using q)]
      exact ih
theorem occ_crlf {x : Str} (hp : Paired x.cps) : occurrences x crlfS 0 x.length (x.length + 1) = (List.range' 0 (x.cps.size + 1)).filter (fun i => x.cps.getD i 0 == 13) := by
  rw [StrLaws.occ_eq]
  have := occ_fold hp (x.length + 1) (x.cps.size + 1) 0 (#[], 0) (by lia) (by show 0 + _ ≤ x.cps.size + 1; lia) (fun _ _ _ => Nat.zero_le _)
  exact this
/-- rows, each with its feed behind it -/
def rowsL (rows : List (List Nat)) : List Nat := rows.flatMap fun r => r ++ [13, 10]
def cutsOf : Nat → List (List Nat) → List Nat
  | _, [] => []
  | a, r :: rs => (a + r.length) :: cutsOf (a + r.length + 2) rs
theorem rowsL_cons (r : List Nat) (rs : List (List Nat)) : rowsL (r :: rs) = r ++ 13 :: 10 :: rowsL rs := by simp [rowsL]
theorem getD_off {x : Str} {a i : Nat} {l : List Nat} (h : x.cps.toList.drop a = l) : x.cps.getD (a + i) 0 = l.getD i 0 := by
  rw [getD_drop, ← h, List.headD_eq_head?_getD, List.head?_drop, List.getD_eq_getElem?_getD, List.getElem?_drop]
theorem cuts_rows {x : Str} : ∀ (rows : List (List Nat)) (a : Nat), (∀ r ∈ rows, 13 ∉ r) → x.cps.toList.drop a = rowsL rows → a ≤ x.cps.size →
    (List.range' a (x.cps.size + 1 - a)).filter (fun i => x.cps.getD i 0 == 13) = cutsOf a rows
  | [], a, _, h, ha => by
    have : x.cps.size ≤ a := by
      have := congrArg List.length h
      simp [rowsL] at this; lia
    rw [show x.cps.size + 1 - a = 1 by lia]
    simp only [List.range'_one, cutsOf]
    rw [List.filter_cons_of_neg (by rw [show a = a + 0 from rfl, getD_off h]; simp [rowsL])]; rfl
  | r :: rs, a, hr, h, ha => by
    rw [rowsL_cons] at h
    have hlen : a + r.length + 2 ≤ x.cps.size := by
      have := congrArg List.length h
      simp only [List.length_drop, List.length_append, List.length_cons, Array.length_toList] at this; lia
    have h2 : x.cps.toList.drop (a + r.length + 2) = rowsL rs := by
      rw [Nat.add_assoc, ← List.drop_drop, h, drop_row]
    have ih := cuts_rows rs (a + r.length + 2) (fun q hq => hr q (.tail _ hq)) h2 hlen
    have e : List.range' a (x.cps.size + 1 - a) = List.range' a r.length ++ ((a + r.length) :: (a + r.length + 1) :: List.range' (a + r.length + 2) (x.cps.size + 1 - (a + r.length + 2))) := by
      obtain ⟨k, hk⟩ : ∃ k, x.cps.size + 1 - (a + r.length + 2) = k := ⟨_, rfl⟩
      rw [hk, show x.cps.size + 1 - a = r.length + (k + 2) by lia, ← List.range'_append_1]; rfl
    have off := fun i => getD_off (i := i) h
    rw [e, List.filter_append, cutsOf]
    have f1 : (List.range' a r.length).filter (fun i => x.cps.getD i 0 == 13) = [] := by
      rw [List.filter_eq_nil_iff]
      intro i hi q
      obtain ⟨h3, h4⟩ := List.mem_range'_1.mp hi
      have := off (i - a)
      rw [show a + (i - a) = i by lia] at this
      rw [this] at q
      rw [getD_app_l (by lia)] at q
      have hm : r.getD (i - a) 0 ∈ r := by
        rw [List.getD_eq_getElem?_getD, List.getElem?_eq_getElem (show i - a < r.length by lia)]; exact List.getElem_mem _
      rw [beq_iff_eq.mp q] at hm
      exact hr r (.head _) hm
    have g1 : x.cps.getD (a + r.length) 0 = 13 := by rw [off, getD_app_r (Nat.le_refl _), Nat.sub_self]; rfl
    have g2 : x.cps.getD (a + r.length + 1) 0 = 10 := by rw [Nat.add_assoc, off, getD_app_r (by lia), show r.length + 1 - r.length = 1 by lia]; rfl
    rw [f1, List.nil_append, List.filter_cons_of_pos (by rw [g1]; rfl), List.filter_cons_of_neg (by rw [g2]; decide), ih]
theorem parts_rows {x : Str} : ∀ (rows : List (List Nat)) (a : Nat), x.cps.toList.drop a = rowsL rows → StrLaws.partsFrom x 2 a (cutsOf a rows) = rows.map strL ++ [Str.empty]
  | [], a, h => by
    rw [cutsOf, StrLaws.partsFrom]
    simp only [List.map_nil, List.nil_append]
    congr 1
    apply Str.ext'
    show x.cps.extract a x.cps.size = #[]
    apply Array.ext'
    rw [extract_list, h]; simp [rowsL]
  | r :: rs, a, h => by
    rw [rowsL_cons] at h
    have h2 : x.cps.toList.drop (a + r.length + 2) = rowsL rs := by
      rw [Nat.add_assoc, ← List.drop_drop, h, drop_row]
    rw [cutsOf, StrLaws.partsFrom, parts_rows rs _ h2, List.map_cons, List.cons_append]
    congr 1
    apply Str.ext'
    show x.cps.extract a (a + r.length) = r.toArray
    apply Array.ext'
    rw [extract_list, h, show a + r.length - a = r.length by lia, List.take_append_of_le_length (Nat.le_refl _), List.take_length]
theorem paired_rows {rows : List (List Nat)} (hr : ∀ r ∈ rows, 13 ∉ r) : Paired (rowsL rows).toArray := by
  intro s hs
  have key : ∀ (rows : List (List Nat)) (s : Nat), (∀ r ∈ rows, 13 ∉ r) → (rowsL rows).getD s 0 = 13 → (rowsL rows).getD (s + 1) 0 = 10 ∧ s + 1 < (rowsL rows).length := by
    intro rows
    induction rows with
    | nil => intro s _ h; simp [rowsL] at h
    | cons r rs ih =>
      intro s hr h
      rw [rowsL_cons] at h ⊢
      by_cases h1 : s < r.length
      · rw [getD_app_l h1] at h
        have hm : r.getD s 0 ∈ r := by
          rw [List.getD_eq_getElem?_getD, List.getElem?_eq_getElem h1]; exact List.getElem_mem _
        rw [h] at hm; exact absurd hm (hr r (.head _))
      · rw [getD_app_r (by lia)] at h
        rw [getD_app_r (by lia)]
        simp only [List.length_append, List.length_cons]
        obtain ⟨k, hk⟩ : ∃ k, s = r.length + k := ⟨s - r.length, by lia⟩
        subst hk
        rw [show r.length + k - r.length = k by lia] at h
        rw [show r.length + k + 1 - r.length = k + 1 by lia]
        match k, h with
        | 0, _ => exact ⟨rfl, by lia⟩
        | 1, h => exact absurd (show (10 : Nat) = 13 from h) (by decide)
        | k + 2, h =>
          have := ih k (fun q hq => hr q (.tail _ hq)) h
          exact ⟨this.1, by lia⟩
  have h1 := key rows s hr (by simpa [Array.getD_eq_getD_getElem?, List.getD_eq_getElem?_getD] using hs)
  exact ⟨by simpa [Array.getD_eq_getD_getElem?, List.getD_eq_getElem?_getD] using h1.1, by simpa using h1.2⟩
theorem strKind_crlf : Str.strKind crlfS = 1 := by decide +kernel
theorem strKind_pos (x : Str) : ¬ Str.strKind x < 1 := by
  unfold Str.strKind; split
  · lia
  · split <;> lia
theorem split_rows {rows : List (List Nat)} (hr : ∀ r ∈ rows, 13 ∉ r) (hne : rows ≠ []) : Txt.split (strL (rowsL rows)) crlfS = rows.map strL ++ [Str.empty] := by
  have hp := paired_rows hr
  have hd : (strL (rowsL rows)).cps.toList.drop 0 = rowsL rows := by simp [strL]
  have hlen : 2 ≤ (strL (rowsL rows)).length := by
    cases rows with
    | nil => exact absurd rfl hne
    | cons r rs => show 2 ≤ (rowsL (r :: rs)).toArray.size; rw [rowsL_cons]; simp; lia
  unfold Txt.split
  rw [strKind_crlf, decide_eq_false (show ¬ (strL (rowsL rows)).length < crlfS.length by show ¬ _ < 2; lia), decide_eq_false (strKind_pos _), Bool.or_self, if_neg Bool.false_ne_true]
  have e := occ_crlf (x := strL (rowsL rows)) hp
  have c := cuts_rows (x := strL (rowsL rows)) rows 0 hr hd (Nat.zero_le _)
  rw [Nat.sub_zero] at c
  rw [e, c]
  rw [if_neg (by cases rows with | nil => exact absurd rfl hne | cons r rs => simp [cutsOf])]
  rw [StrLaws.partsBetween_eq]
  exact parts_rows rows 0 hd
end Mine
end

section
open PySem PySem.W PySem.Spec PySem.Calls PyProof.Rows
set_option Elab.async false
set_option maxRecDepth 100000
namespace Mine
theorem sliceRange_one (a b : Nat) (h : a ≤ b) : sliceRange (a : Int) (b : Int) 1 = (List.range (b - a)).map (fun k => a + k) := by
  unfold sliceRange
  have hc : (if (1 : Int) > 0 then (if (a : Int) < b then ((b : Int) - a + 1 - 1) / 1 else 0) else (if (a : Int) > b then ((a : Int) - b - 1 - 1) / (-1) else 0)).toNat = b - a := by
    rw [if_pos (by decide)]
    by_cases q : (a : Int) < b
    · rw [if_pos q]; lia
    · rw [if_neg q]; lia
  dsimp only
  rw [hc]
  apply List.map_congr_left
  intro k _
  lia
theorem pick_of {l : List Value} {lo hi : Option Int} {a b : Nat} (hab : a ≤ b) (hb : b ≤ l.length) (e : sliceBounds lo hi none l.length = ((a : Int), (b : Int), (1 : Int))) :
    slicePick l.toArray lo hi none = ((l.drop a).take (b - a)).toArray := by
  unfold slicePick
  rw [List.size_toArray, e]
  dsimp only
  rw [sliceRange_one a b hab]
  congr 1
  have : (fun x : Nat => l.toArray[x]?) = fun x => l[x]? := by funext x; simp
  rw [this]
  exact StrLaws.picks l (b - a) a (by lia)
theorem pick_take (l : List Value) (k : Nat) : slicePick l.toArray none (some (k : Int)) none = (l.take k).toArray := by
  have e : sliceBounds none (some (k : Int)) none l.length = (((0 : Nat) : Int), ((min k l.length : Nat) : Int), (1 : Int)) := by
    unfold sliceBounds
    simp
    lia
  rw [pick_of (Nat.zero_le _) (Nat.min_le_right _ _) e, List.drop_zero, Nat.sub_zero]
  congr 1
  by_cases q : k ≤ l.length
  · rw [Nat.min_eq_left q]
  · rw [Nat.min_eq_right (by lia), List.take_length, List.take_of_length_le (by lia)]
theorem pick_init (l : List Value) : slicePick l.toArray none (some (-1)) none = l.dropLast.toArray := by
  have e : sliceBounds none (some (-1 : Int)) none l.length = (((0 : Nat) : Int), ((l.length - 1 : Nat) : Int), (1 : Int)) := by
    unfold sliceBounds
    simp
    lia
  rw [pick_of (Nat.zero_le _) (Nat.sub_le _ _) e, List.drop_zero, Nat.sub_zero, List.dropLast_eq_take]
theorem pick_last (l : List Value) : slicePick l.toArray (some (-1)) none none = (l.drop (l.length - 1)).toArray := by
  have e : sliceBounds (some (-1 : Int)) none none l.length = (((l.length - 1 : Nat) : Int), ((l.length : Nat) : Int), (1 : Int)) := by
    unfold sliceBounds
    simp
    lia
  rw [pick_of (Nat.sub_le _ _) (Nat.le_refl _) e]
  congr 1
  exact List.take_of_length_le (by simp)
theorem takeWhile_dots (q : List Nat) (hq : q.head? ≠ some 46) : ∀ d : Nat, (List.replicate d 46 ++ q).takeWhile (#[46] : Array Nat).contains = List.replicate d 46
  | 0 => by
    cases q with
    | nil => rfl
    | cons c r =>
      have : c ≠ 46 := fun e => hq (by rw [e]; rfl)
      show (c :: r).takeWhile _ = []
      rw [List.takeWhile_cons, if_neg (by simpa using this)]
  | d + 1 => by
    rw [List.replicate_succ, List.cons_append, List.takeWhile_cons, if_pos (by simp), takeWhile_dots q hq d]
theorem lstrip_row (d : Nat) (q : List Nat) (hq : q.head? ≠ some 46) : Txt.lstripChars (strL (List.replicate d 46 ++ q)) ⟨#[46]⟩ = strL q := by
  have hlo : PySem.stripLo (#[46] : Array Nat).contains true (strL (List.replicate d 46 ++ q)) = d := by
    unfold PySem.stripLo
    rw [if_pos rfl]
    show (List.takeWhile _ (List.replicate d 46 ++ q).toArray.toList).length = d
    rw [List.toList_toArray, takeWhile_dots q hq, List.length_replicate]
  unfold Txt.lstripChars Txt.stripBy PySem.stripSame PySem.stripped
  rw [hlo]
  have hhi : PySem.stripHi (#[46] : Array Nat).contains false (strL (List.replicate d 46 ++ q)) d = (strL (List.replicate d 46 ++ q)).length := by
    unfold PySem.stripHi
    rw [if_neg Bool.false_ne_true]
  rw [hhi]
  have key : Builtin.Str.strSub (strL (List.replicate d 46 ++ q)) d (strL (List.replicate d 46 ++ q)).length = strL q := by
    apply Str.ext'
    apply Array.ext'
    show ((List.replicate d 46 ++ q).toArray.extract d (List.replicate d 46 ++ q).toArray.size).toList = q.toArray.toList
    rw [extract_list]
    simp
  cases d with
  | zero => simp
  | succ d =>
    rw [if_neg (by simp)]
    exact key
section
variable {prog : Program} {w : World} {A : Around} {E : Value → Shared → Prop} {s : Shared}
theorem strsAre_values : ∀ l : List (Str × Tok), StrsAre (strValues l) (l.map (·.1))
  | [] => .nil
  | (x, t) :: r => .cons x t (strsAre_values r)
theorem index_strs {l : Addr} {sgl : List (Str × Tok)} {j : Nat} {x : Str} {t : Tok} {Q : Value → Shared → Prop} (hl : s.heap.IsList l (strValues sgl).toArray) (hj : (sgl.map (·.1))[j]? = some x) (hn : (sgl.map (·.1)).Nodup) (hs : sgl.length ≤ 1000)
    (h : Q (.int (j : Nat) s.toks) { s with toks := s.toks + 1 }) : wpAny (model prog w) A (call (.builtin "list.index") [.ref l, .str x t]) Q E s := by
  obtain ⟨⟨cls, dd, data, sl⟩, ho, hc, n, hd⟩ := id hl
  simp only at hc hd
  subst hc hd
  have hjl : j < sgl.length := by
    by_cases q : j < sgl.length
    · exact q
    · rw [List.getElem?_eq_none (by simpa using q)] at hj; cases hj
  have hat : ∀ m (hm : m < (strValues sgl).toArray.size), isStrOf x (strValues sgl).toArray[m] = ((sgl.map (·.1))[m]'(by simpa [strValues] using hm) == x) := fun m hm => by
    simp [strValues, isStrOf]
  refine call_meets PySem.F.slot_list_index ⟨_, ho, rfl⟩ PySem.F.entry_list_index (PySem.F.args_list_index_2 _ _)
    (SeqAt.list_indexAt l (strValues sgl).toArray n dd sl (.str x t) (isStrOf x) j (by simpa [strValues] using hjl) (by lia) ?_ ?_) ⟨ho, fun y hy => (eq_isStrOf x t (strsAre_values sgl) y (by simpa using hy)).at _ _, h⟩
  · rw [hat j (by simpa [strValues] using hjl)]
    rw [List.getElem?_eq_getElem (by simpa using hjl)] at hj
    simpa using Option.some.inj hj
  · intro m hm hlt
    rw [hat m hm]
    apply beq_eq_false_iff_ne.mpr
    intro e
    rw [List.getElem?_eq_getElem (by simpa using hjl)] at hj
    have e2 := e.trans (Option.some.inj hj).symm
    exact List.pairwise_iff_getElem.mp hn m j (by simpa [strValues] using hm) (by simpa using hjl) hlt e2
end
end Mine
end

section
open PySem PySem.W PySem.Spec PySem.Calls PyProof.Rows PyProof.Rows.LCg
set_option Elab.async false
set_option maxRecDepth 100000
namespace Mine
/-- a contract, used -/
theorem useSpec {α : Type} {M : Model} {A : Around} {t : Sem α} {P Q : α → Shared → Prop} {E : Value → Shared → Prop} {s : Shared} (h : wpAny M A t P NE s) (k : ∀ v s', P v s' → Q v s') : wpAny M A t Q E s := wpAny_mono h k fun _ _ y => y.elim
/-- the end of a block's turn -/
theorem compEnd_mono {h₀ : Heap} {L : Addr} {m : Str → Option Value} {s₁ : Shared} {I C D : Addr} {oI oC oD : Obj} {S : List (Addr × Obj) → Prop} {r r' : Value → List (Addr × Obj) → Prop} {y : Value} {s₂ : Shared}
    (h : CompEnd h₀ L m s₁ I oI C oC D oD S r y s₂) (hr : ∀ y n, r y n → r' y n) : CompEnd h₀ L m s₁ I oI C oC D oD S r' y s₂ := by
  obtain ⟨h', tk, news', e, F, N, off, hS, q⟩ := h
  exact ⟨h', tk, news', e, F, N, off, hS, hr _ _ q⟩
section
variable {prog : Program} {w : World} {A : Around} {h₀ : Heap} {L : Addr} {m : Str → Option Value} {env : Env} {elt : Expr} {x : Str} {scope : Scope} {cl : List (Str × Addr)} {s : Shared} {S : List (Addr × Obj) → Prop} {P : Nat → Value → Prop} {Fin : List Value → List (Addr × Obj) → Prop}
theorem comp_inv {n : Nat} (J : Nat → List Value → List (Addr × Obj) → Prop)
    (turn : ∀ i ys news v I oI C oC D m₂ h tk, i < n → J i ys news → P i v → NsObj oC m₂ → m₂ x = some v → Fr h₀ L h m → News h₀ L h ((I, oI) :: (C, oC) :: (D, lst ys) :: news) → Off3 I C D news → ((@Ne Nat I C) ∧ (@Ne Nat I D) ∧ (@Ne Nat C D)) →
      wpAny (model prog w) A (eval elt (compEnvC scope cl C env)) (CompEnd h₀ L m { s with heap := h, toks := tk } I oI C oC D (lst ys) S (fun y news' => J (i + 1) (ys ++ [y]) news')) NE { s with heap := h, toks := tk })
    (fin : ∀ ys news, J n ys news → Fin ys news) : ∀ k i ys news, i + k = n → J i ys news → CompRest prog w A h₀ L m env elt x scope cl s S P Fin k i ys news
  | 0, i, ys, news, e, hJ => by
    have : i = n := by lia
    subst this
    exact .zero (fin _ _ hJ)
  | k + 1, i, ys, news, e, hJ => .succ fun v I oI C oC D m₂ h tk E' hP hoC hx F N off ne =>
    wpAny_mono (turn i ys news v I oI C oC D m₂ h tk (by lia) hJ hP hoC hx F N off ne) (fun y s₂ q => compEnd_mono q fun y n' q' => comp_inv J turn fin k (i + 1) _ _ (by lia) q') fun _ _ q => q.elim
end
section
variable {prog : Program} {w : World} {A : Around} {E : Value → Shared → Prop} {s : Shared} {h₀ : Heap} {L l : Addr} {m : Str → Option Value} {news : List (Addr × Obj)}
theorem iter_led {its : Array Value} {k : Nat} {Q : Value → Shared → Prop} (F : Fr h₀ L s.heap m) (N : News h₀ L s.heap news) (hp : (l, W.listOf its k) ∈ news)
    (h : ∀ (I : Addr) h', Fr h₀ L h' m → News h₀ L h' ((I, liObj l 0) :: news) → (∀ p ∈ news, p.1 < I) → Q (.ref I) { s with heap := h' }) :
    wpAny (model prog w) A (call (.builtin "iter") [.ref l]) Q E s := by
  refine call_function_entry (by decide +kernel) (by decide +kernel) kdk_entry_iter (kdk_args_iter _) ?_
  unfold Builtin.«iter»
  refine wpAny_bind (m := someArgs "iter" 1 2 _) (wpAny_of_eq (a := [Value.ref l]) (by first | rfl | kernel_rfl!) ?_)
  show wpAny _ _ (pyIter (.ref l) >>= _) _ _ _
  refine wpAny_bind (wpAny_pyIter_list (News.isList N hp) ?_)
  exact wpAny_pure ⟨_, rfl, h _ _ (F.push _) (News.push F N _ rfl) fun q hq => Heap.lt_size (N q hq).1⟩
end
end Mine
end

section
open PySem PySem.W PySem.Spec PySem.Calls PyProof.Rows PyProof.Rows.LCg
set_option Elab.async false
set_option maxRecDepth 100000
namespace Mine
structure Signs (sg : List Str) : Prop where
  len : sg.length = 4
  nodup : sg.Nodup
  no13 : ∀ x ∈ sg, 13 ∉ x.cps.toList
  head : ∀ x ∈ sg, x.cps.toList.head? ≠ some 46
  short : ∀ x ∈ sg, x.cps.size ≤ 4
def rowOf (sg : List Str) (r : Nat × Nat) : List Nat := List.replicate r.1 46 ++ (sg.getD r.2 Str.empty).cps.toList
def mailL (sg : List Str) (rows : List (Nat × Nat)) : List Nat := rowsL (rows.map (rowOf sg))
theorem news_drop2 {g h : Heap} {L : Addr} {a b : Addr × Obj} {r : List (Addr × Obj)} (N : News g L h (a :: b :: r)) : News g L h (a :: r) := fun p hp => N p (by
  rcases List.mem_cons.mp hp with rfl | hp
  · exact .head _
  · exact .tail _ (.tail _ hp))
def figs (rows : List (Nat × Nat)) : List Int := rows.map fun r => ((4 * r.1 + r.2 : Nat) : Int)
theorem figs_snoc (r : List (Nat × Nat)) (x : Nat × Nat) : figs (r ++ [x]) = figs r ++ [((4 * x.1 + x.2 : Nat) : Int)] := by simp [figs]
theorem figs_len (r : List (Nat × Nat)) : (figs r).length = r.length := by simp [figs]
def carryL (fs : List Int) : List Int := fs.dropLast.map (64 + ·) ++ fs.drop (fs.length - 1)
theorem carryL_snoc (fs : List Int) (x : Int) : carryL (fs ++ [x]) = fs.map (64 + ·) ++ [x] := by
  unfold carryL
  rw [List.dropLast_concat, List.length_append, List.length_singleton, Nat.add_sub_cancel, List.drop_left]
def numL (fs : List Int) : Int := varint (carryL fs)
theorem figs_mem {rows : List (Nat × Nat)} (hr : ∀ r ∈ rows, r.2 < 4 ∧ 4 * r.1 + r.2 < 64) {f : Int} (h : f ∈ figs rows) : 0 ≤ f ∧ f < 64 := by
  obtain ⟨r, hm, rfl⟩ := List.mem_map.mp h
  have := (hr r hm).2
  lia
theorem carry_facts {rows : List (Nat × Nat)} (hr : ∀ r ∈ rows, r.2 < 4 ∧ 4 * r.1 + r.2 < 64) (hne : rows ≠ []) :
    carryL (figs rows) ≠ [] ∧ (∀ f ∈ carryL (figs rows), 0 ≤ f ∧ f < 128) ∧ (carryL (figs rows)).length = rows.length ∧ (∀ i, i + 1 < (carryL (figs rows)).length → 64 ≤ (carryL (figs rows)).getD i 0) ∧ (carryL (figs rows)).getD ((carryL (figs rows)).length - 1) 0 < 64 := by
  rcases List.eq_nil_or_concat rows with h | ⟨r, x, h⟩
  · exact absurd h hne
  rw [List.concat_eq_append] at h
  subst h
  rw [figs_snoc, carryL_snoc]
  have hx := (hr x (by simp)).2
  have hr' : ∀ f ∈ figs r, 0 ≤ f ∧ f < 64 := fun f hf => figs_mem (rows := r) (fun y hy => hr y (by simp [hy])) hf
  refine ⟨by simp, fun f hf => ?_, by simp [figs_len], fun i hi => ?_, ?_⟩
  · rcases List.mem_append.mp hf with h | h
    · obtain ⟨y, hy, rfl⟩ := List.mem_map.mp h
      have := hr' y hy
      lia
    · rw [List.mem_singleton.mp h]; lia
  · simp only [List.length_append, List.length_map, List.length_singleton] at hi
    have hi' : i < (figs r).length := by lia
    rw [List.getD_eq_getElem?_getD, List.getElem?_append_left (by simpa using hi'), List.getElem?_map, List.getElem?_eq_getElem hi']
    have := hr' _ (List.getElem_mem hi')
    simp only [Option.map_some, Option.getD_some]
    lia
  · rw [List.getD_eq_getElem?_getD, List.length_append, List.length_singleton, Nat.add_sub_cancel, List.getElem?_append_right (Nat.le_refl _), Nat.sub_self]
    simp only [List.getElem?_cons_zero, Option.getD_some]
    lia
theorem rowOf_no13 {sg : List Str} (S : Signs sg) {r : Nat × Nat} (h : r.2 < 4) : 13 ∉ rowOf sg r := fun q => by
  rcases List.mem_append.mp q with q | q
  · have := List.eq_of_mem_replicate q
    lia
  · exact S.no13 _ (by
      have : r.2 < sg.length := by rw [S.len]; exact h
      simp [List.getD, this]) q
theorem rowsL_len : ∀ (rows : List (List Nat)) (b : Nat), (∀ r ∈ rows, r.length ≤ b) → (rowsL rows).length ≤ rows.length * (b + 2)
  | [], _, _ => by simp [rowsL]
  | r :: rs, b, h => by
    have h1 := h r (.head _)
    have h2 := rowsL_len rs b fun q hq => h q (.tail _ hq)
    rw [rowsL_cons]
    simp only [List.length_append, List.length_cons, List.length_nil]
    rw [Nat.add_mul]; lia
theorem strL_toList (x : Str) : strL x.cps.toList = x := rfl
theorem rowOf_len {sg : List Str} (S : Signs sg) {r : Nat × Nat} (h : r.2 < 4) : (strL (rowOf sg r)).length = r.1 + (sg.getD r.2 Str.empty).length := by
  show (rowOf sg r).toArray.size = r.1 + (sg.getD r.2 Str.empty).cps.size
  simp [rowOf]
theorem sg_mem {sg : List Str} (S : Signs sg) {k : Nat} (h : k < 4) : sg.getD k Str.empty ∈ sg := by
  have : k < sg.length := by rw [S.len]; exact h
  simp [List.getD, this]
section
variable {prog : Program} {w : World} {A : Around} {E : Value → Shared → Prop} {s : Shared}
theorem lstrip_rule {sg : List Str} (S : Signs sg) {r : Nat × Nat} (h2 : r.2 < 4) (h1 : r.1 < 100) {t u : Tok} {Q : Value → Shared → Prop}
    (h : ∀ t' k, Q (.str (sg.getD r.2 Str.empty) t') { s with toks := k }) : wpAny (model prog w) A (call (.builtin "str.lstrip") [.str (strL (rowOf sg r)) t, .str (Str.ofString ".") u]) Q E s := by
  have hm := sg_mem S h2
  have e : Txt.lstripChars (strL (rowOf sg r)) (Str.ofString ".") = sg.getD r.2 Str.empty := by
    rw [show Str.ofString "." = (⟨#[46]⟩ : Str) by decide +kernel]
    exact lstrip_row r.1 _ (S.head _ hm)
  refine SCL.lstripChars ?_ ?_
  · rw [e]; exact fun t' k _ => h t' k
  · rw [rowOf_len S h2, sizeLine_eq]
    have := S.short _ hm
    show r.1 + (sg.getD r.2 Str.empty).cps.size ≤ _
    lia
theorem getM_lst {g : Heap} {L : Addr} {m : Str → Option Value} {l : Addr} {its : Array Value} {n : Nat} {name : Str} {id : String} {pl : Sem Bool} {Q : Value × List Value → Shared → Prop} (F : Fr g L s.heap m) (hl : g.get? l = some (W.listOf its n)) (slot : Slot "list" name id)
    (hty : typeOf (.builtin id) = pure (.type "method_descriptor")) (h : Q (.builtin id, [.ref l]) s) : wpAny (model prog w) A (getMethod (.ref l) name pl) Q E s :=
  getMethod_builtin ⟨_, F.keep _ _ hl, rfl⟩ PySem.F.plainAttrs_list slot hty (fun a e => by cases e; exact ⟨_, F.keep _ _ hl, rfl⟩) h
theorem index_rule {g : Heap} {L : Addr} {m : Str → Option Value} {l : Addr} {sgl : List (Str × Tok)} {j : Nat} {x : Str} {t : Tok} {Q : Value → Shared → Prop} (F : Fr g L s.heap m) {n : Nat} (hl : g.get? l = some (W.listOf (strValues sgl).toArray n)) (hj : (sgl.map (·.1))[j]? = some x) (hn : (sgl.map (·.1)).Nodup) (hs : sgl.length ≤ 1000)
    (h : Q (.int (j : Nat) s.toks) { s with toks := s.toks + 1 }) : wpAny (model prog w) A (call (.builtin "list.index") [.ref l, .str x t]) Q E s :=
  index_strs ⟨_, F.keep _ _ hl, rfl, _, rfl⟩ hj hn hs h
theorem slice_led {g : Heap} {L : Addr} {m : Str → Option Value} {news : List (Addr × Obj)} {value slice : Expr} {l : Addr} {items : Array Value} {vl vu : Value} {lo hi : Option Int} {Q : Value → Shared → Prop}
    (F : Fr g L s.heap m) (N : News g L s.heap news) (hl : s.heap.IsList l items) (pl : IsPart vl lo) (pu : IsPart vu hi)
    (h : ∀ D h', (∀ p ∈ news, p.1 ≠ D) → Fr g L h' m → News g L h' ((D, W.listOf (slicePick items lo hi none) 0) :: news) → Q (.ref D) { s with heap := h' })
    (hs : subscripted slice false (.ref l) (.ref s.heap.objs.size) = operate [.ref s.heap.objs.size, .ref l] (getItem (.ref l) (.ref s.heap.objs.size)))
    (ht : ∀ r, letTemporaryGo value (.ref l) r = pure ())
    (hsz : items.size ≤ sizeLine) :
    wpAny (model prog w) A (subscriptTail value slice (.ref l) (.ref s.heap.objs.size)) Q E { s with heap := s.heap.push { cls := .type "slice", data := .fields #[vl, vu, .none] } } :=
  slice_list F N hl pl pu (fun h' F' N' => h _ h' (fun p hp => Nat.ne_of_lt (Nat.lt_succ_of_lt (Heap.lt_size (N p hp).1))) F' N') hs ht hsz
end
section
variable {w : World} {mean : ExcName → Option Value} {mg mb : Str → Option Value}
theorem kw_NB1_1 : True := by
  k_with_none
  k_with "call builtin:str.lstrip" => (k_here; k_dflt (refine lstrip_rule (by assumption) (by assumption) (by omega) ?_; intro _ _))
  k_with "call builtin:list.index" => (k_here; k_dflt (refine index_rule (by k_asm) (by assumption) (by assumption) (by assumption) (by assumption) ?_))
  k_with "getMethod ref" => (k_here; k_dflt (refine getM_lst (by k_asm) (by assumption) PySem.F.slot_list_index PySem.F.type_list_index ?_))
  k_with "mine upd" => first | exact Upd.head (fun _ h => nomatch h) | exact Upd.tail (by first | assumption | (apply Ne.symm; assumption)) (by walk_at "mine upd")
  k_with "call builtin:list.append" => (k_here; k_dflt (refine append_K (by k_asm) (by k_asm) (by walk_at "mine upd") ?_ (by assumption)); intro _ _ _)
  k_with "pyIter" => (k_here; refine Hold.out ?_)
  k_with "pyIter ref" => (k_here; refine Hold.out ?_)
  k_with "subscriptTail Name Slice ref ref" => (k_here; refine Hold.out ?_)
  k_with "binaryOp Add ref ref" => (k_here; refine Hold.out ?_)
  k_with "call ref" => (k_here; refine Hold.out ?_)
  k_with "call builtin:iter" => (k_here; k_dflt (refine iter_led (by k_asm) (by k_asm) (by k_mem) ?_; intro _ _ _ _ _))
  k_with "eval ListComp" => (k_here; k_dflt (refine LCg.ListComp_U (F₀ := by k_asm) (by with_unfolding_all rfl) (by decide) (by rfl) (by decide) (by rfl) ?_))
  k_with "exec For Name Subscript cons nil" => (k_here; refine Hold.out ?_)
  trivial
set_option maxHeartbeats 4000000 in
theorem number_spec {A : Around} {s : Shared} {G : Heap} (X : (hd.heap_39 w.params).In G) (T : Top PV LO mean mg mb G) (st : G.StaysIn s.heap) (hd : A.depth + 2 < recursionLimit) (hA : A.handled = none) {sg : List Str} {sgl : List (Str × Tok)} {rows : List (Nat × Nat)} {sa : Addr}
    (S : Signs sg) (hsl : sgl.map (·.1) = sg) {ns : Nat} (hsa : s.heap.get? sa = some (W.listOf (strValues sgl).toArray ns)) (hr : ∀ r ∈ rows, r.2 < 4 ∧ 4 * r.1 + r.2 < 64) (hne : rows ≠ []) (hlen : rows.length ≤ 8) (tx : Tok) :
    wpAny (MD w) A (call (.ref 86) [.str (strL (mailL sg rows)) tx, .ref sa]) (Calm s fun v _ => ∃ t, v = .int (numL (figs rows)) t) NE s := by
  have hno : ∀ r ∈ rows.map (rowOf sg), 13 ∉ r := fun r h => by
    obtain ⟨y, hy, rfl⟩ := List.mem_map.mp h
    exact rowOf_no13 S (hr y hy).1
  have hsp := split_rows hno (by simpa using hne)
  have hxl : (strL (mailL sg rows)).length ≤ 1000 := by
    have h := rowsL_len (rows.map (rowOf sg)) 20 (fun r h => by
      obtain ⟨y, hy, rfl⟩ := List.mem_map.mp h
      have h1 := rowOf_len S (hr y hy).1
      have h2 := S.short _ (sg_mem S (hr y hy).1)
      have h3 := (hr y hy).2
      have h4 : (strL (rowOf sg y)).length = (rowOf sg y).length := by show (rowOf sg y).toArray.size = _; simp
      have h5 : (sg.getD y.2 Str.empty).length = (sg.getD y.2 Str.empty).cps.size := rfl
      lia)
    have h6 : (strL (mailL sg rows)).length = (mailL sg rows).length := by show (mailL sg rows).toArray.size = _; simp
    rw [h6]; unfold mailL
    rw [List.length_map] at h
    lia
  k_dflt (refine' enter (binds := [(Str.ofString "mail", .str (strL (mailL sg rows)) tx), (Str.ofString "signs", .ref sa)]) [] ?X ?T ?st ?hm ?ho ?hcd ?hroom ?hbind ?hloc ?hcell ?h ?hco ?hgen ?hk; (case X => assumption); (case T => assumption); (case st => assumption); (case hm => exact fun _ h => nomatch h); (case ho => k_is); (case hcd => k_is); (case hroom => lia); (case hbind => exact rfl); (case hloc => exact locs rfl); (case hcell => decide); (case hco => exact rfl); (case hgen => exact rfl); (case hk => exact rfl))
  intro g L h₁ hg hg' hL F N X' T'
  have hsag : g.get? sa = some (W.listOf (strValues sgl).toArray ns) := hg _ _ hsa (by simp)
  have hnd : (sgl.map (·.1)).Nodup := hsl ▸ S.nodup
  have hsz9 : sgl.length ≤ 1000 := by
    have := congrArg List.length hsl
    rw [S.len] at this; simp at this; lia
  generalize hx : strL (mailL sg rows) = x at *
  show wpAny _ _ _ _ _ _
  k_fold
  k_steps
  refine Hold.mk ?_
  refine wpAny_For ?_
  k_steps
  refine Hold.mk ?_
  (rename (List.map _ _ = Txt.split _ _) => hlm)
  (rename List (Str × Tok) => l0)
  (rename Fr _ _ _ _ => F1)
  (rename News _ _ _ _ => N1)
  have hl0 : l0.map (·.1) = (rows.map (rowOf sg)).map strL ++ [Str.empty] := by rw [hlm, ← hsp, ← hx]; rfl
  have hl1 : l0.dropLast.map (·.1) = (rows.map (rowOf sg)).map strL := by rw [List.map_dropLast, hl0, List.dropLast_concat]
  have hsz0 : (strValues l0).toArray.size ≤ sizeLine := by
    have := congrArg List.length hl0
    simp [strValues] at this ⊢; rw [sizeLine_eq]; lia
  k_dflt (refine slice_led F1 N1 (News.isList N1 (.head _)) .none (.int _ _) ?_ (by with_unfolding_all rfl) (by intro _; with_unfolding_all rfl) hsz0)
  intro D h2 hD F2 N2
  rw [pick_init] at N2
  have hDf := hD _ (.tail _ (.head _))
  dsimp only at hDf
  clear F1 N1
  k_steps
  refine Hold.mk ?_
  have hdl : (strValues l0).dropLast = strValues l0.dropLast := by simp [strValues]
  rw [hdl] at N2
  refine' loop_list (l := ?l) (items := (strValues l0.dropLast).toArray) (fun i m ld => ∃ fg its n, ld = [(?l, { cls := .type "list", data := .seq (strValues l0.dropLast).toArray }), (fg, W.listOf its n)] ∧ fg ≠ ?l ∧ IntsAre its.toList (figs (rows.take i)) ∧ m "figures" = some (.ref fg) ∧ m "signs" = some (.ref sa)) ?hh ?hkx ?hlo ?hcls ?F ?N ?J0 ?hL ?turn ?done
  case hh => exact hA
  case hkx => exact rfl
  case hlo => exact rfl
  case hcls => exact rfl
  case F => exact F2
  case N => exact news_drop2 N2
  case J0 => exact ⟨_, _, _, rfl, hDf, .nil, rfl, rfl⟩
  case hL =>
    rintro h m' ld' i ⟨fg, its, n, rfl, _⟩ _ N
    exact News.isList N (.head _)
  case turn =>
    clear F2 N2
    intro i v m₁ ld₁ it itO h₃ tk₃ hv zzJ hitl hne1 hlt F N
    refine hidden fun zzG zzH => ?_
    obtain ⟨fg, its, n, rfl, hfl, hI, hm1, hm2⟩ := zzJ
    have q1 := hne1 _ (.head _)
    have q2 := hne1 _ (.tail _ (.head _))
    dsimp only at q1 q2 hfl
    clear hne1
    have hits : its.size ≤ 1000 := by
      have := hI.length
      simp [figs] at this; lia
    have hits2 : its.size ≤ sizeLine := by rw [sizeLine_eq]; lia
    rw [norm1 hm1, norm1 hm2] at F
    obtain ⟨r, hri, t, rfl⟩ : ∃ r, rows[i]? = some r ∧ ∃ t, v = .str (strL (rowOf sg r)) t := by
      rw [List.getElem?_toArray] at hv
      simp only [strValues, List.getElem?_map, Option.map_eq_some_iff] at hv
      obtain ⟨p, hp, rfl⟩ := hv
      have h1 : (l0.dropLast.map (·.1))[i]? = some p.1 := by rw [List.getElem?_map, hp]; rfl
      rw [hl1, List.getElem?_map, List.getElem?_map] at h1
      simp only [Option.map_eq_some_iff] at h1
      obtain ⟨q, ⟨r, hr1, rfl⟩, h2⟩ := h1
      exact ⟨r, hr1, p.2, by rw [h2]⟩
    have hrm : r ∈ rows := List.mem_of_getElem? hri
    have hr2 := (hr r hrm).1
    have hr1 := (hr r hrm).2
    have hjx : (sgl.map (·.1))[r.2]? = some (sg.getD r.2 Str.empty) := by
      rw [hsl]; have : r.2 < sg.length := by rw [S.len]; exact hr2
      simp [List.getD, this]
    have hn1 : (strL (rowOf sg r)).length ≤ 1000 := by
      rw [rowOf_len S hr2]; have := S.short _ (sg_mem S hr2); show r.1 + (sg.getD r.2 Str.empty).cps.size ≤ _; lia
    have hn2 : (sg.getD r.2 Str.empty).length ≤ 1000 := by
      have := S.short _ (sg_mem S hr2); show (sg.getD r.2 Str.empty).cps.size ≤ _; lia
    refine zzH ?_
    clear zzH zzG
    show wpAny _ _ _ _ _ _
    k_fold
    k_steps
    (rename Fr _ _ _ _ => F9)
    (rename News _ _ _ _ => N9)
    refine ⟨_, _, _, _, rfl, F9, N9, ?_, _, _, _, rfl, hfl, ?_, rfl, rfl⟩
    · intro p hp
      rcases List.mem_cons.mp hp with rfl | hp
      · exact q1
      · rw [List.mem_singleton.mp hp]; exact q2
    · rw [Array.toList_push, List.take_add_one, hri]
      show IntsAre _ (List.map _ _)
      rw [List.map_append]
      have e : (4 * (((strL (rowOf sg r)).length : Int) - ((sg.getD r.2 Str.empty).length : Int)) + (r.2 : Int)) = ((4 * r.1 + r.2 : Nat) : Int) := by
        rw [rowOf_len S hr2]; lia
      rw [e]
      exact IntsAre.append hI (.cons _ _ .nil)
  case done =>
    clear F2 N2
    intro m₁ ld₁ h₃ tk₃ zzJ F N
    refine hidden fun zzG zzH => ?_
    obtain ⟨fg, its, n, rfl, hfl, hI, hm1, hm2⟩ := zzJ
    rw [norm1 hm1] at F
    have hI' : IntsAre its.toList (figs rows) := by
      have e : (strValues l0.dropLast).toArray.size = rows.length := by
        have := congrArg List.length hl1
        simpa [strValues] using this
      rw [e, List.take_length] at hI; exact hI
    have hits : its.size ≤ 1000 := by
      have := hI.length
      simp [figs] at this; lia
    have hits2 : its.size ≤ sizeLine := by rw [sizeLine_eq]; lia
    refine zzH ?_
    clear zzH zzG
    show wpAny _ _ _ _ _ _
    k_steps
    refine Hold.mk ?_
    (rename Fr _ _ _ _ => F9)
    (rename News _ _ _ _ => N9)
    k_dflt (refine slice_led F9 N9 (News.isList N9 (.tail _ (.head _))) .none (.int _ _) ?_ (by with_unfolding_all rfl) (by intro _; with_unfolding_all rfl) hits2)
    clear F9 N9
    intro D2 h4 hD2 F4 N4
    have hp : slicePick its none (some (-1)) none = its.toList.dropLast.toArray := pick_init its.toList
    rw [hp] at N4
    have hlen2 : its.toList.length = rows.length := by rw [hI'.length, figs_len]
    refine CompSrc.ledger hA F4 N4 (.head _) ?_ ?_
    · rw [sizeLine_eq]; simp; lia
    · intro h5
      refine comp_inv (fun i ys nw => IntsAre ys (((figs rows).dropLast.take i).map (64 + ·)) ∧ nw = [(D2, W.listOf its.toList.dropLast.toArray 0), (D, { cls := Value.type "list", data := Data.seq (strValues l0.dropLast).toArray }), (fg, W.listOf its n)]) ?_ ?_ _ _ _ _ (Nat.zero_add _) ⟨.nil, rfl⟩
      · rintro i ys nw v I oI C oC D3 m2 h6 tk6 hi ⟨hys, rfl⟩ hv hoC hm2x F6 N6 hoff hne3
        obtain ⟨z, t, rfl, hz⟩ : ∃ z t, v = .int z t ∧ (figs rows).dropLast[i]? = some z := by
          rw [List.getElem?_toArray, List.dropLast_eq_take] at hv
          rw [List.dropLast_eq_take, figs_len, ← hlen2]
          obtain ⟨z, t, q1, q2⟩ := IntsAre.at (IntsAre.take hI' (its.toList.length - 1)) i v hv
          exact ⟨z, t, q1, q2⟩
        show wpAny _ _ _ _ _ _
        k_fold
        k_steps
        (rename Fr _ _ _ _ => F9)
        (rename News _ _ _ _ => N9)
        exact ⟨_, _, _, rfl, F9, N9, hoff, .inr ⟨_, .head _, rfl, _, rfl⟩, by
          rw [List.take_add_one, hz, List.map_append]
          exact IntsAre.append hys (.cons _ _ .nil), rfl⟩
      · rintro ys nw ⟨hys, rfl⟩ D3 h6 tk6 F6 N6 hoff
        show wpAny _ _ _ _ _ _
        k_fold
        k_steps
        refine Hold.mk ?_
        (rename Fr _ _ _ _ => F9)
        (rename News _ _ _ _ => N9)
        k_dflt (refine slice_led F9 N9 (News.isList N9 (.tail _ (.tail _ (.tail _ (.head _))))) (.int _ _) .none ?_ (by with_unfolding_all rfl) (by intro _; with_unfolding_all rfl) hits2)
        clear F9 N9
        intro D4 h7 hD4 F7 N7
        have hp2 : slicePick its (some (-1)) none none = (its.toList.drop (its.toList.length - 1)).toArray := pick_last its.toList
        rw [hp2] at N7
        show wpAny _ _ _ _ _ _
        k_fold
        k_steps
        refine Hold.mk ?_
        (rename Fr _ _ _ _ => F9)
        (rename News _ _ _ _ => N9)
        have hlast : IntsAre (its.toList.drop (its.toList.length - 1)) ((figs rows).drop (its.toList.length - 1)) := IntsAre.drop hI' _
        k_dflt (refine kmk_add_ints F9 N9 (News.isList N9 (.tail _ (.head _))) (News.isList N9 (.head _)) hys hlast ?_ ?_)
        · clear F9 N9
          intro D5 us h8 F8 N8 hlt8 hus
          show wpAny _ _ _ _ _ _
          k_fold
          k_steps
          refine Hold.mk ?_
          (rename Fr _ _ _ _ => F9)
          (rename News _ _ _ _ => N9)
          have hsz : its.toList.dropLast.toArray.size = (figs rows).dropLast.length := by
            rw [List.size_toArray, List.length_dropLast, List.length_dropLast, hlen2, figs_len]
          rw [hsz, List.take_length, hlen2, ← figs_len rows] at hus
          obtain ⟨c1, c2, c3, c4, c5⟩ := carry_facts hr hne
          have nI := N9 _ (.head _)
          refine' useSpec ?va ?vb
          case va =>
            refine' varint_spec (fs := carryL (figs rows)) X' T' ?vs ?vd ?v1 ?v2 ?v3 hus c1 c2 ?v4 c4 c5
            case vs => exact F9.keep
            case vd => show A.depth + 1 + 1 < _; lia
            case v1 => exact nI.1
            case v2 => exact nI.2.2
            case v3 => exact News.isList N9 (.tail _ (.head _))
            case v4 => lia
          intro v s9 hv
          obtain ⟨h9, tk9, t9, rfl, hk9, rfl⟩ := hv
          exact ⟨_, _, rfl, fun a o e => hk9 _ _ (fun q => by
            have e2 := hg _ _ e (by simp)
            rw [q, nI.2.2] at e2; cases e2) (F9.keep _ _ (hg _ _ e (by simp))), _, rfl⟩
        · rw [List.length_map, List.length_take, List.length_drop, figs_len, List.length_dropLast, figs_len, sizeLine_eq]
          lia
end
theorem kw_NB1_z : True := by
  k_with_none
  trivial
end Mine
end

section
open PySem PySem.W PySem.Spec PySem.Calls PyProof.Rows
set_option Elab.async false
set_option maxRecDepth 100000
namespace Mine
abbrev Rows := List (Nat × Nat)
def bareR (r : Rows) : Rows := r.map fun p => (p.1, 0)
def upR (r : Rows) : Rows := r.map fun p => (p.1 + 1, p.2)
def nodeR (k : Nat) (ps : List Rows) : Rows := (2, k) :: upR ps.flatten
def textR (sg : List Str) (r : Rows) : Str := strL (mailL sg r)
def cmpR (sg : List Str) (a b : Rows) : Int := if sgn (textR sg (bareR a)) (textR sg (bareR b)) ≠ 0 then sgn (textR sg (bareR a)) (textR sg (bareR b)) else sgn (textR sg a) (textR sg b)
def spotR (sg : List Str) (a : Rows) : List Rows → Nat
  | [] => 0
  | q :: r => if 0 < cmpR sg a q then spotR sg a r + 1 else 0
def insR (sg : List Str) (a : Rows) (ps : List Rows) : List Rows := ps.take (spotR sg a ps) ++ a :: ps.drop (spotR sg a ps)
def sortR (sg : List Str) (l : List Rows) : List Rows := l.foldl (fun ps a => insR sg a ps) []
theorem insR_len (sg : List Str) (a : Rows) (ps : List Rows) : (insR sg a ps).length = ps.length + 1 := by
  unfold insR
  rw [List.length_append, List.length_cons, List.length_take, List.length_drop]
  lia
theorem sortR_len (sg : List Str) (l : List Rows) : (sortR sg l).length = l.length := by
  unfold sortR
  have : ∀ (l acc : List Rows), (l.foldl (fun ps a => insR sg a ps) acc).length = acc.length + l.length := by
    intro l
    induction l with
    | nil => intro acc; rfl
    | cons a r ih => intro acc; rw [List.foldl_cons, ih, insR_len, List.length_cons]; lia
  rw [this]; simp
theorem mem_insR {sg : List Str} {a r : Rows} {ps : List Rows} (h : r ∈ insR sg a ps) : r = a ∨ r ∈ ps := by
  unfold insR at h
  rcases List.mem_append.mp h with h | h
  · exact .inr (List.mem_of_mem_take h)
  · rcases List.mem_cons.mp h with h | h
    · exact .inl h
    · exact .inr (List.mem_of_mem_drop h)
theorem mem_sortR {sg : List Str} {l : List Rows} {r : Rows} (h : r ∈ sortR sg l) : r ∈ l := by
  unfold sortR at h
  have : ∀ (l acc : List Rows), r ∈ l.foldl (fun ps a => insR sg a ps) acc → r ∈ acc ∨ r ∈ l := by
    intro l
    induction l with
    | nil => intro acc h; exact .inl h
    | cons a q ih =>
      intro acc h
      rw [List.foldl_cons] at h
      rcases ih _ h with h | h
      · rcases mem_insR h with rfl | h
        · exact .inr (.head _)
        · exact .inl h
      · exact .inr (.tail _ h)
  rcases this l [] h with h | h
  · cases h
  · exact h
theorem bareR_up (r : Rows) : bareR (upR r) = upR (bareR r) := by simp [bareR, upR]
theorem bareR_flatten (ps : List Rows) : bareR ps.flatten = (ps.map bareR).flatten := by
  induction ps with
  | nil => rfl
  | cons p r ih =>
    rw [List.flatten_cons, List.map_cons, List.flatten_cons, ← ih]
    simp [bareR]
theorem bareR_node (k : Nat) (ps : List Rows) : bareR (nodeR k ps) = nodeR 0 (ps.map bareR) := by
  show (2, 0) :: bareR (upR ps.flatten) = _
  rw [bareR_up, bareR_flatten]; rfl
theorem mailL_flatten (sg : List Str) (ps : List Rows) : mailL sg ps.flatten = (ps.map (mailL sg)).flatten := by
  induction ps with
  | nil => rfl
  | cons p r ih =>
    rw [List.flatten_cons, List.map_cons, List.flatten_cons, ← ih]
    simp [mailL, rowsL]
theorem crlfL_pre : ∀ (r t : List Nat), (∀ c ∈ r, c ≠ 10 ∧ c ≠ 13) → crlfL (r ++ t) = r ++ crlfL t
  | [], _, _ => rfl
  | c :: r, t, h => by
    have h1 := h c (.head _)
    rw [List.cons_append, crlfL_cons, if_neg h1.2, if_neg h1.1, crlfL_pre r t fun x hx => h x (.tail _ hx), List.cons_append]
theorem crlfL_rows : ∀ rows : List (List Nat), (∀ r ∈ rows, ∀ c ∈ r, c ≠ 10 ∧ c ≠ 13) → crlfL (rowsL rows) = rowsL rows
  | [], _ => by simp [rowsL, crlfL_nil]
  | r :: rs, h => by
    rw [rowsL_cons, crlfL_pre r _ (h r (.head _)), crlfL_cons, if_pos rfl, List.drop_one, List.tail_cons, crlfL_rows rs fun q hq => h q (.tail _ hq)]
theorem dotsL_pre : ∀ (r t : List Nat), (∀ c ∈ r, c ≠ 10) → dotsL false (r ++ 13 :: t) = r ++ dotsL false (13 :: t)
  | [], _, _ => rfl
  | c :: r, t, h => by
    have h1 : (c == 10) = false := by simpa using h c (.head _)
    rw [List.cons_append, dotsL, Bool.false_and, if_neg Bool.false_ne_true, h1, dotsL_pre r t fun x hx => h x (.tail _ hx), List.cons_append]
theorem dotsL_rows : ∀ rows : List (List Nat), (∀ r ∈ rows, ∃ q, r = 46 :: q ∧ ∀ c ∈ q, c ≠ 10) → dotsL true (rowsL rows) = rowsL (rows.map (46 :: ·))
  | [], _ => by simp [rowsL, dotsL]
  | r :: rs, h => by
    obtain ⟨q, rfl, hq⟩ := h r (.head _)
    rw [rowsL_cons, List.cons_append, dotsL]
    rw [if_pos (by decide), dotsL_pre q _ hq, dotsL, Bool.false_and, if_neg Bool.false_ne_true, show ((13 : Nat) == 10) = false from rfl, dotsL, Bool.false_and, if_neg Bool.false_ne_true, show ((10 : Nat) == 10) = true from rfl,
      dotsL_rows rs fun x hx => h x (.tail _ hx), List.map_cons, rowsL_cons]
    rfl
/-- what quotedata makes of a dot, a name, a feed and rows -/
theorem quote_rows {nm : List Nat} {rows : List (List Nat)} (hn : ∀ c ∈ nm, c ≠ 10 ∧ c ≠ 13) (h : ∀ r ∈ rows, ∃ q, r = 46 :: q ∧ ∀ c ∈ q, c ≠ 10 ∧ c ≠ 13) :
    dotsL true (crlfL (46 :: nm ++ 10 :: rowsL rows)) = rowsL ((46 :: 46 :: nm) :: rows.map (46 :: ·)) := by
  have h1 : crlfL (46 :: nm ++ 10 :: rowsL rows) = rowsL ((46 :: nm) :: rows) := by
    rw [crlfL_pre (46 :: nm) _ (fun c hc => by
      rcases List.mem_cons.mp hc with rfl | hc
      · decide
      · exact hn c hc), crlfL_cons, if_neg (by decide), if_pos rfl, crlfL_rows rows (fun r hr c hc => by
        obtain ⟨q, rfl, hq⟩ := h r hr
        rcases List.mem_cons.mp hc with rfl | hc
        · decide
        · exact hq c hc), rowsL_cons]
  rw [h1, dotsL_rows _ (fun r hr => by
    rcases List.mem_cons.mp hr with rfl | hr
    · exact ⟨nm, rfl, fun c hc => (hn c hc).1⟩
    · obtain ⟨q, e, hq⟩ := h r hr
      exact ⟨q, e, fun c hc => (hq c hc).1⟩)]
  rfl
structure Signs' (sg : List Str) : Prop extends Signs sg where
  no10 : ∀ x ∈ sg, 10 ∉ x.cps.toList
theorem rowOf_up (sg : List Str) (p : Nat × Nat) : rowOf sg (p.1 + 1, p.2) = 46 :: rowOf sg p := by simp [rowOf, List.replicate_succ]
theorem sign_ok {sg : List Str} (S : Signs' sg) {k : Nat} (h : k < 4) : ∀ c ∈ (sg.getD k Str.empty).cps.toList, c ≠ 10 ∧ c ≠ 13 := fun c hc =>
  ⟨fun e => S.no10 _ (sg_mem S.toSigns h) (e ▸ hc), fun e => S.no13 _ (sg_mem S.toSigns h) (e ▸ hc)⟩
theorem rowOf_ok {sg : List Str} (S : Signs' sg) {p : Nat × Nat} (h : p.2 < 4) (h1 : 1 ≤ p.1) : ∃ q, rowOf sg p = 46 :: q ∧ ∀ c ∈ q, c ≠ 10 ∧ c ≠ 13 := by
  obtain ⟨d, hd⟩ : ∃ d, p.1 = d + 1 := ⟨p.1 - 1, by lia⟩
  refine ⟨List.replicate d 46 ++ (sg.getD p.2 Str.empty).cps.toList, by rw [rowOf, hd, List.replicate_succ]; rfl, fun c hc => ?_⟩
  rcases List.mem_append.mp hc with hc | hc
  · rw [List.eq_of_mem_replicate hc]; decide
  · exact sign_ok S h c hc
theorem quote_node {sg : List Str} (S : Signs' sg) {k : Nat} (hk : k < 4) {ps : List Rows} (h : ∀ r ∈ ps, ∀ p ∈ r, p.2 < 4 ∧ 1 ≤ p.1) :
    dotsL true (crlfL (46 :: (sg.getD k Str.empty).cps.toList ++ 10 :: (ps.map (mailL sg)).flatten)) = mailL sg (nodeR k ps) := by
  rw [← mailL_flatten]
  have hf : ∀ p ∈ ps.flatten, p.2 < 4 ∧ 1 ≤ p.1 := fun p hp => by
    obtain ⟨r, hr, hp⟩ := List.mem_flatten.mp hp
    exact h r hr p hp
  have e : mailL sg (nodeR k ps) = mailL sg ((2, k) :: upR ps.flatten) := rfl
  rw [e]
  generalize ps.flatten = R at hf
  show dotsL true (crlfL (46 :: (sg.getD k Str.empty).cps.toList ++ 10 :: rowsL (R.map (rowOf sg)))) = rowsL ((((2, k) :: upR R).map (rowOf sg)))
  rw [quote_rows (sign_ok S hk) (fun r hr => by
    obtain ⟨p, hp, rfl⟩ := List.mem_map.mp hr
    exact rowOf_ok S (hf p hp).1 (hf p hp).2)]
  rw [List.map_cons, upR, List.map_map, List.map_map]
  congr 2
theorem paired_list {x : Str} (h : ∀ s, x.cps.toList.getD s 0 = 13 → x.cps.toList.getD (s + 1) 0 = 10 ∧ s + 1 < x.cps.toList.length) : Paired x.cps := fun s hs => by
  have := h s (by simpa [Array.getD_eq_getD_getElem?, List.getD_eq_getElem?_getD] using hs)
  exact ⟨by simpa [Array.getD_eq_getD_getElem?, List.getD_eq_getElem?_getD] using this.1, by simpa using this.2⟩
theorem list_paired {x : Str} (h : Paired x.cps) : ∀ s, x.cps.toList.getD s 0 = 13 → x.cps.toList.getD (s + 1) 0 = 10 ∧ s + 1 < x.cps.toList.length := fun s hs => by
  have := h s (by simpa [Array.getD_eq_getD_getElem?, List.getD_eq_getElem?_getD] using hs)
  exact ⟨by simpa [Array.getD_eq_getD_getElem?, List.getD_eq_getElem?_getD] using this.1, by simpa using this.2⟩
theorem paired_pre {p : List Nat} {rows : List (List Nat)} (hp : 13 ∉ p) (hr : ∀ r ∈ rows, 13 ∉ r) : Paired (strL (p ++ rowsL rows)).cps := by
  refine paired_list fun s hs => ?_
  have h2 := list_paired (x := strL (rowsL rows)) (paired_rows hr)
  simp only [strL, List.toList_toArray] at hs h2 ⊢
  by_cases hl : s < p.length
  · rw [List.getD_eq_getElem?_getD, List.getElem?_append_left hl, List.getElem?_eq_getElem hl] at hs
    exact absurd (hs ▸ List.getElem_mem hl) hp
  · have := h2 (s - p.length) (by
      rw [List.getD_eq_getElem?_getD, List.getElem?_append_right (by lia)] at hs
      rw [List.getD_eq_getElem?_getD]; exact hs)
    refine ⟨?_, by rw [List.length_append]; lia⟩
    rw [List.getD_eq_getElem?_getD, List.getElem?_append_right (by lia), ← List.getD_eq_getElem?_getD, show s + 1 - p.length = s - p.length + 1 by lia]
    exact this.1
theorem paired_node {sg : List Str} (S : Signs' sg) {k : Nat} (hk : k < 4) {ps : List Rows} (h : ∀ r ∈ ps, ∀ p ∈ r, p.2 < 4 ∧ 1 ≤ p.1) :
    Paired (strL (46 :: (sg.getD k Str.empty).cps.toList ++ 10 :: (ps.map (mailL sg)).flatten)).cps := by
  rw [← mailL_flatten]
  rw [show ∀ (a : List Nat) (b : List Nat), a ++ 10 :: b = (a ++ [10]) ++ b from fun a b => by simp]
  refine paired_pre (fun q => ?_) (fun r hr => ?_)
  · rcases List.mem_append.mp q with q | q
    · rcases List.mem_cons.mp q with q | q
      · cases q
      · exact (sign_ok S hk 13 q).2 rfl
    · rw [List.mem_singleton] at q; cases q
  · obtain ⟨p, hp, rfl⟩ := List.mem_map.mp hr
    obtain ⟨r, hr, hp⟩ := List.mem_flatten.mp hp
    exact rowOf_no13 S.toSigns (h r hr p hp).1
end Mine
end

section
open PySem PySem.W PySem.Spec PySem.Calls PyProof.Rows PyProof.Rows.LCg
set_option Elab.async false
set_option maxRecDepth 100000
namespace Mine
def TupIn (g : Heap) (tups : List (Addr × Obj)) (t : Addr) (items : Array Value) : Prop := ∃ o, ((t, o) ∈ tups ∨ g.get? t = some o) ∧ o.cls = .type "tuple" ∧ ∃ n, o.data = .seq items n
theorem TupIn.isTup {g h : Heap} {L t : Addr} {m : Str → Option Value} {tups ld : List (Addr × Obj)} {items : Array Value} (F : Fr g L h m) (N : News g L h ld) (sub : ∀ p ∈ tups, p ∈ ld) (x : TupIn g tups t items) : IsTup h t items := by
  obtain ⟨o, ho, hc, n, hd⟩ := x
  rcases ho with ho | ho
  · exact ⟨o, (N _ (sub _ ho)).1, hc, n, hd⟩
  · exact ⟨o, F.keep _ _ ho, hc, n, hd⟩
theorem TupIn.flip {g h : Heap} {L t : Addr} {m : Str → Option Value} {tups ld : List (Addr × Obj)} {items : Array Value} (x : TupIn g tups t items) (F : Fr g L h m) (N : News g L h ld) (sub : ∀ p ∈ tups, p ∈ ld) : IsTup h t items := x.isTup F N sub
structure Net (n : Nat) (nb : Nat → List Nat) (kd : Nat → Nat) (sg : List Str) (M : Nat → Int → Rows) (dep : Nat → Int → Nat) : Prop where
  S : Signs' sg
  sg0 : sg.getD 0 Str.empty = Str.empty
  n8 : n ≤ 8
  nbr : ∀ v, v < n → ∀ w ∈ nb v, w < n
  nbl : ∀ v, v < n → (nb v).length ≤ 8
  kd4 : ∀ v, v < n → kd v < 4
  depLt : ∀ v, v < n → ∀ u : Int, ∀ w ∈ nb v, (w : Int) ≠ u → dep w v < dep v u
  row : ∀ v, v < n → ∀ u, ∀ r ∈ M v u, r.2 < 4 ∧ 1 ≤ r.1 ∧ 4 * r.1 + r.2 < 64
  len : ∀ v, v < n → ∀ u, (M v u).length ≤ 8
  eq : ∀ v, v < n → ∀ u : Int, M v u = nodeR (kd v) (sortR sg (((nb v).filter fun (w : Nat) => decide ((w : Int) ≠ u)).map fun (w : Nat) => M w v))
def TiesAt (h : Heap) (ta : Addr) (n : Nat) (nb : Nat → List Nat) : Prop :=
  ∃ tis : Array Value, h.IsList ta tis ∧ ∀ v, v < n → ∃ l its, tis[v]? = some (.ref l) ∧ h.IsList l its ∧ IntsAre its.toList ((nb v).map fun (w : Nat) => (w : Int))
def NamesAt (h : Heap) (na : Addr) (n : Nat) (kd : Nat → Nat) (sg : List Str) : Prop :=
  ∃ nis : Array Value, h.IsList na nis ∧ ∀ v, v < n → ∃ t, nis[v]? = some (.str (sg.getD (kd v) Str.empty) t)
theorem isList_keep {g h : Heap} {a : Addr} {i : Array Value} (k : ∀ a o, g.get? a = some o → h.get? a = some o) (x : g.IsList a i) : h.IsList a i := let ⟨o, ho, r⟩ := x; ⟨o, k a o ho, r⟩
theorem TiesAt.keep {g h : Heap} {ta : Addr} {n : Nat} {nb : Nat → List Nat} (k : ∀ a o, g.get? a = some o → h.get? a = some o) (x : TiesAt g ta n nb) : TiesAt h ta n nb := by
  obtain ⟨tis, h1, h2⟩ := x
  refine ⟨tis, isList_keep k h1, fun v hv => ?_⟩
  obtain ⟨l, its, a, b, c⟩ := h2 v hv
  exact ⟨l, its, a, isList_keep k b, c⟩
theorem NamesAt.keep {g h : Heap} {na : Addr} {n : Nat} {kd : Nat → Nat} {sg : List Str} (k : ∀ a o, g.get? a = some o → h.get? a = some o) (x : NamesAt g na n kd sg) : NamesAt h na n kd sg := by
  obtain ⟨nis, h1, h2⟩ := x
  exact ⟨nis, isList_keep k h1, h2⟩
abbrev mailTup (sg : List Str) (r : Rows) (tb tn : Tok) : Array Value := [Value.str (textR sg (bareR r)) tb, .str (textR sg r) tn].toArray
def BookOk (T : Addr → Array Value → Prop) (kvs : List (Int × Value)) (n : Nat) (sg : List Str) (M : Nat → Int → Rows) : Prop :=
  ∀ e ∈ kvs, ∃ (v : Nat) (u : Int) (t : Addr) (tb tn : Tok), v < n ∧ -1 ≤ u ∧ u < n ∧ e = (16 * (v : Int) + u, .ref t) ∧ T t (mailTup sg (M v u) tb tn)
abbrev IK (w : World) := intKind PySem.Challenge.pw_tc0001_01 w
inductive MailPost (w : World) (s : Shared) (ba : Addr) (kvs : List (Int × Value)) (n : Nat) (sg : List Str) (M : Nat → Int → Rows) (v : Nat) (u : Int) (val : Value) (s' : Shared) : Prop
  | mk : ∀ h' tk' bo' kvs' t tb tn, s' = { s with heap := h', toks := tk' } → (∀ a o, a ≠ ba → s.heap.get? a = some o → h'.get? a = some o) → h'.get? ba = some bo' → bo'.IsDictOf (IK w) kvs' → BookOk (IsTup h') kvs' n sg M → (∀ e ∈ kvs, e ∈ kvs') → val = .ref t → (16 * (v : Int) + u, Value.ref t) ∈ kvs' → IsTup h' t (mailTup sg (M v u) tb tn) → (∀ e ∈ kvs', e ∈ kvs ∨ ∃ t : Addr, e.2 = .ref t ∧ s.heap.get? t = none) → MailPost w s ba kvs n sg M v u val s'
theorem valueAt_some {kvs : List (Int × Value)} {k : Int} {x : Value} (h : valueAt kvs k = some x) : (k, x) ∈ kvs := by
  unfold valueAt at h
  simp only [Option.map_eq_some_iff] at h
  obtain ⟨p, hp, rfl⟩ := h
  have h1 := List.find?_some hp
  have h2 := List.mem_of_find?_eq_some hp
  simp only [decide_eq_true_eq] at h1
  rw [← h1]; exact h2
theorem valueAt_mem {kvs : List (Int × Value)} {k : Int} {x : Value} (hn : (kvs.map (·.1)).Nodup) (h : (k, x) ∈ kvs) : valueAt kvs k = some x := by
  induction kvs with
  | nil => cases h
  | cons p r ih =>
    rw [List.map_cons, List.nodup_cons] at hn
    unfold valueAt
    rw [List.find?_cons]
    by_cases q : p.1 = k
    · rw [decide_eq_true q]
      rcases List.mem_cons.mp h with rfl | h
      · rfl
      · exact absurd (List.mem_map_of_mem (f := Prod.fst) h) (q ▸ hn.1)
    · rw [decide_eq_false q]
      rcases List.mem_cons.mp h with rfl | h
      · exact absurd rfl q
      · exact ih hn.2 h
theorem BookOk.mono {T T' : Addr → Array Value → Prop} {kvs : List (Int × Value)} {n : Nat} {sg : List Str} {M : Nat → Int → Rows} (h : BookOk T kvs n sg M) (k : ∀ t i, T t i → T' t i) : BookOk T' kvs n sg M := fun e he => by
  obtain ⟨v, u, t, tb, tn, a, b, c, d, x⟩ := h e he
  exact ⟨v, u, t, tb, tn, a, b, c, d, k _ _ x⟩
theorem TupIn.mono {g g' : Heap} {l l' : List (Addr × Obj)} {t : Addr} {i : Array Value} (x : TupIn g l t i) (k : ∀ p ∈ l, p ∈ l') (kg : ∀ a o, g.get? a = some o → g'.get? a = some o) : TupIn g' l' t i := by
  obtain ⟨o, h, r⟩ := x
  refine ⟨o, ?_, r⟩
  rcases h with h | h
  · exact .inl (k _ h)
  · exact .inr (kg _ _ h)
theorem book_news {g h : Heap} {L : Addr} {m : Str → Option Value} {n : Nat} {sg : List Str} {M : Nat → Int → Rows} (F : Fr g L h m) : ∀ (kvs : List (Int × Value)), BookOk (IsTup h) kvs n sg M →
    ∃ extra : List (Addr × Obj), News g L h extra ∧ BookOk (TupIn g extra) kvs n sg M ∧ ∀ p ∈ extra, ∃ items, IsTup h p.1 items
  | [], _ => ⟨[], (fun _ h => nomatch h), (fun _ h => nomatch h), (fun _ h => nomatch h)⟩
  | e :: r, hb => by
    obtain ⟨ex, N, B, C⟩ := book_news F r fun x hx => hb x (.tail _ hx)
    obtain ⟨v, u, t, tb, tn, a, b, c, d, x⟩ := hb e (.head _)
    obtain ⟨o, ho, hc, k, hd⟩ := id x
    cases hg : g.get? t with
    | some o' =>
      have e2 := F.keep _ _ hg
      rw [ho] at e2; cases e2
      refine ⟨ex, N, fun y hy => ?_, C⟩
      rcases List.mem_cons.mp hy with rfl | hy
      · exact ⟨v, u, t, tb, tn, a, b, c, d, o, .inr hg, hc, k, hd⟩
      · exact B y hy
    | none =>
      refine ⟨(t, o) :: ex, fun p hp => ?_, fun y hy => ?_, fun p hp => ?_⟩
      · rcases List.mem_cons.mp hp with rfl | hp
        · exact ⟨ho, F.tup_ne x, hg⟩
        · exact N p hp
      · rcases List.mem_cons.mp hy with rfl | hy
        · exact ⟨v, u, t, tb, tn, a, b, c, d, o, .inl (.head _), hc, k, hd⟩
        · obtain ⟨v', u', t', tb', tn', a', b', c', d', x'⟩ := B y hy
          exact ⟨v', u', t', tb', tn', a', b', c', d', x'.mono (fun _ h => .tail _ h) fun _ _ h => h⟩
      · rcases List.mem_cons.mp hp with rfl | hp
        · exact ⟨_, x⟩
        · exact C p hp
/-- the parts so far -/
def PartsOk (T : Addr → Array Value → Prop) (its : Array Value) (sg : List Str) (ps : List Rows) : Prop :=
  its.size = ps.length ∧ ∀ (j : Nat) (r : Rows), ps[j]? = some r → ∃ (t : Addr) (tb tn : Tok), its[j]? = some (Value.ref t) ∧ T t (mailTup sg r tb tn)
theorem PartsOk.mono {T T' : Addr → Array Value → Prop} {its : Array Value} {sg : List Str} {ps : List Rows} (h : PartsOk T its sg ps) (k : ∀ t i, T t i → T' t i) : PartsOk T' its sg ps :=
  ⟨h.1, fun j r hr => by obtain ⟨t, tb, tn, a, b⟩ := h.2 j r hr; exact ⟨t, tb, tn, a, k _ _ b⟩⟩
def kidsR (nb : Nat → List Nat) (M : Nat → Int → Rows) (v : Nat) (u : Int) (i : Nat) : List Rows := (((nb v).take i).filter fun (w : Nat) => decide ((w : Int) ≠ u)).map fun (w : Nat) => M w v
theorem kidsR_len (nb : Nat → List Nat) (M : Nat → Int → Rows) (v : Nat) (u : Int) (i : Nat) : (kidsR nb M v u i).length ≤ (nb v).length := by
  unfold kidsR
  rw [List.length_map]
  exact Nat.le_trans (List.length_filter_le _ _) (by rw [List.length_take]; lia)
theorem mem_kidsR {nb : Nat → List Nat} {M : Nat → Int → Rows} {v : Nat} {u : Int} {i : Nat} {r : Rows} (h : r ∈ kidsR nb M v u i) : ∃ w ∈ nb v, r = M w v := by
  obtain ⟨w, hw, rfl⟩ := List.mem_map.mp h
  exact ⟨w, List.mem_of_mem_take (List.mem_filter.mp hw).1, rfl⟩
theorem kidsR_skip {nb : Nat → List Nat} {M : Nat → Int → Rows} {v : Nat} {u : Int} {i w : Nat} (h : (nb v)[i]? = some w) (e : (w : Int) = u) : kidsR nb M v u (i + 1) = kidsR nb M v u i := by
  unfold kidsR
  rw [List.take_add_one, h, Option.toList_some, List.filter_append]
  simp [e]
theorem kidsR_add {nb : Nat → List Nat} {M : Nat → Int → Rows} {v : Nat} {u : Int} {i w : Nat} (h : (nb v)[i]? = some w) (e : (w : Int) ≠ u) : kidsR nb M v u (i + 1) = kidsR nb M v u i ++ [M w v] := by
  unfold kidsR
  rw [List.take_add_one, h, Option.toList_some, List.filter_append]
  simp [e]
theorem sortR_snoc (sg : List Str) (l : List Rows) (a : Rows) : sortR sg (l ++ [a]) = insR sg a (sortR sg l) := by
  unfold sortR; rw [List.foldl_append]; rfl
inductive MJ (w : World) (n : Nat) (nb : Nat → List Nat) (sg : List Str) (M : Nat → Int → Rows) (g : Heap) (kvs : List (Int × Value)) (v : Nat) (u : Int) (tv tu : Tok) (ta na ba : Addr) (i : Nat) (m : Str → Option Value) (ld : List (Addr × Obj)) : Prop
  | mk : ∀ bo' kvs' its k tups pa tk, ld = (pa, W.listOf its k) :: (ba, bo') :: tups → pa ≠ ba → (∀ p ∈ tups, p.1 ≠ pa ∧ p.1 ≠ ba) → bo'.IsDictOf (IK w) kvs' → BookOk (TupIn g tups) kvs' n sg M → (∀ e ∈ kvs, e ∈ kvs') → (∀ e ∈ kvs', e ∈ kvs ∨ ∃ t : Addr, e.2 = .ref t ∧ g.get? t = none ∧ t ≠ ba) → PartsOk (TupIn g tups) its sg (sortR sg (kidsR nb M v u i)) → m "parts" = some (.ref pa) → m "v" = some (.int v tv) → m "u" = some (.int u tu) → m "ties" = some (.ref ta) → m "names" = some (.ref na) → m "book" = some (.ref ba) → m "key" = some (.int (16 * (v : Int) + u) tk) → MJ w n nb sg M g kvs v u tv tu ta na ba i m ld
theorem spotR_le (sg : List Str) (a : Rows) : ∀ ps : List Rows, spotR sg a ps ≤ ps.length
  | [] => Nat.le_refl _
  | q :: r => by
    unfold spotR; split
    · have := spotR_le sg a r; simp; lia
    · simp
theorem spotR_lt {sg : List Str} {a : Rows} : ∀ {ps : List Rows} {i : Nat} {q : Rows}, i < spotR sg a ps → ps[i]? = some q → 0 < cmpR sg a q
  | [], i, q, h, _ => absurd h (Nat.not_lt_zero _)
  | p :: r, i, q, h, hq => by
    unfold spotR at h; split at h
    · rename_i hp
      cases i with
      | zero => cases hq; exact hp
      | succ i => exact spotR_lt (ps := r) (i := i) (by lia) (by simpa using hq)
    · exact absurd h (Nat.not_lt_zero _)
theorem spotR_at {sg : List Str} {a : Rows} : ∀ {ps : List Rows} {q : Rows}, ps[spotR sg a ps]? = some q → ¬ 0 < cmpR sg a q
  | [], q, h => by cases h
  | p :: r, q, h => by
    unfold spotR at h; split at h
    · exact spotR_at (ps := r) (by simpa using h)
    · rename_i hp; cases h; exact hp
theorem calm_use {M : Model} {A : Around} {t : Sem Value} {P : Value → Heap → Prop} {Q : Value → Shared → Prop} {E : Value → Shared → Prop} {s : Shared} {g : Heap} {L : Addr} {m : Str → Option Value} {ld : List (Addr × Obj)} (h : wpAny M A t (Calm s P) NE s) (F : Fr g L s.heap m) (N : News g L s.heap ld)
    (k : ∀ h' tk' v, P v h' → Fr g L h' m → News g L h' ld → Q v { s with heap := h', toks := tk' }) : wpAny M A t Q E s :=
  useSpec h fun v s' hv => by obtain ⟨h', tk', rfl, st, p⟩ := hv; exact k h' tk' v p (fr_stay F st) (news_stay N st)
theorem calm_flip {M : Model} {A : Around} {t : Sem Value} {P : Value → Heap → Prop} {Q : Value → Shared → Prop} {E : Value → Shared → Prop} {s : Shared} {g : Heap} {L : Addr} {m : Str → Option Value} {ld : List (Addr × Obj)} (F : Fr g L s.heap m) (N : News g L s.heap ld) (h : wpAny M A t (Calm s P) NE s)
    (k : ∀ h' tk' v, P v h' → Fr g L h' m → News g L h' ld → Q v { s with heap := h', toks := tk' }) : wpAny M A t Q E s := calm_use h F N k
theorem tup_ne_dct {prog : Program} {w : World} {h : Heap} {t ba : Addr} {items : Array Value} {bo : Obj} {kvs : List (Int × Value)} (x : IsTup h t items) (hb : h.get? ba = some bo) (hd : bo.IsDictOf (intKind prog w) kvs) : t ≠ ba := by
  rintro rfl
  obtain ⟨o, ho, hc, _⟩ := x
  obtain ⟨es, ep, he, _⟩ := hd
  rw [hb] at ho; cases ho
  rw [he.1] at hc
  exact absurd (Value.type.inj hc) (by decide)
theorem tup_ne_lst {h : Heap} {t l : Addr} {items : Array Value} {its : Array Value} {n : Nat} (x : IsTup h t items) (hb : h.get? l = some (W.listOf its n)) : t ≠ l := by
  rintro rfl
  obtain ⟨o, ho, hc, _⟩ := x
  rw [hb] at ho; cases ho
  exact absurd (Value.type.inj hc) (by decide)
theorem lst_ne_dct {prog : Program} {w : World} {h : Heap} {l ba : Addr} {its : Array Value} {n : Nat} {bo : Obj} {kvs : List (Int × Value)} (x : h.get? l = some (W.listOf its n)) (hb : h.get? ba = some bo) (hd : bo.IsDictOf (intKind prog w) kvs) : l ≠ ba := by
  rintro rfl
  obtain ⟨es, ep, he, _⟩ := hd
  rw [hb] at x; cases x
  exact absurd (Value.type.inj he.1) (by decide)
theorem tup_ne_cls {h : Heap} {t a : Addr} {items : Array Value} {o : Obj} (x : IsTup h t items) (ho : h.get? a = some o) (hc : o.cls = .type "list_iterator") : t ≠ a := by
  rintro rfl
  obtain ⟨o', ho', hc', _⟩ := x
  rw [ho] at ho'; cases ho'
  rw [hc] at hc'
  exact absurd (Value.type.inj hc') (by decide)
theorem key_inj {v v' n : Nat} {u u' : Int} (hn : n ≤ 8) (hv : v < n) (hv' : v' < n) (hu : -1 ≤ u) (hun : u < n) (hu' : -1 ≤ u') (hun' : u' < n) (h : 16 * (v : Int) + u = 16 * (v' : Int) + u') : v = v' ∧ u = u' := by lia
theorem mail_len {sg : List Str} (S : Signs' sg) {r : Rows} (h : ∀ p ∈ r, p.2 < 4 ∧ 1 ≤ p.1 ∧ 4 * p.1 + p.2 < 64) (hl : r.length ≤ 8) : (mailL sg r).length ≤ 200 := by
  have h1 := rowsL_len (r.map (rowOf sg)) 20 (fun x hx => by
    obtain ⟨y, hy, rfl⟩ := List.mem_map.mp hx
    have h1 := rowOf_len S.toSigns (h y hy).1
    have h2 := S.short _ (sg_mem S.toSigns (h y hy).1)
    have h3 := (h y hy).2.2
    have h4 : (strL (rowOf sg y)).length = (rowOf sg y).length := by show (rowOf sg y).toArray.size = _; simp
    have h5 : (sg.getD y.2 Str.empty).length = (sg.getD y.2 Str.empty).cps.size := rfl
    lia)
  rw [List.length_map] at h1
  unfold mailL
  lia
theorem join_nil0 (sg : List Str) : ∀ (l : List Rows), (Str.join (Str.ofString "") (l.map (textR sg))).cps.toList = (l.map (mailL sg)).flatten
  | [] => rfl
  | [r] => by
    show (textR sg r).cps.toList = _
    simp [textR, strL]
  | r :: q :: l => by
    have ih := join_nil0 sg (q :: l)
    rw [show ((r :: q :: l).map (mailL sg)).flatten = mailL sg r ++ ((q :: l).map (mailL sg)).flatten from rfl, ← ih]
    show (((textR sg r).cps ++ (Str.ofString "").cps) ++ (Str.join (Str.ofString "") ((q :: l).map (textR sg))).cps).toList = _
    rw [Array.toList_append, Array.toList_append]
    simp [textR, strL, show (Str.ofString "").cps = #[] by decide +kernel]
theorem join_nil (sg : List Str) (l : List Rows) : (Txt.join (Str.ofString "") (l.map (textR sg))).cps.toList = (l.map (mailL sg)).flatten := by
  show (PySem.Builtin.Str.glued _ _).cps.toList = _
  rw [StrLaws.glued_eq_join, join_nil0]
theorem texts_ok {sg : List Str} {l : List Rows} (h : ∀ r ∈ l, (mailL sg r).length ≤ 200) (hl : l.length ≤ 8) : JoinOk (Str.ofString "") (l.map (textR sg)) = true ∧ (l.map (mailL sg)).flatten.length ≤ 10000 := by
  have hs : ((l.map (textR sg)).map (·.length)).sum ≤ l.length * 200 := by
    clear hl
    induction l with
    | nil => simp
    | cons r q ih =>
      have h1 := h r (.head _)
      have h2 := ih fun x hx => h x (.tail _ hx)
      simp only [List.map_cons, List.sum_cons, List.length_cons]
      have h3 : (textR sg r).length = (mailL sg r).length := by show (mailL sg r).toArray.size = _; simp
      lia
  have hs2 : (l.map (mailL sg)).flatten.length ≤ l.length * 200 := by
    clear hl hs
    induction l with
    | nil => simp
    | cons r q ih =>
      have h1 := h r (.head _)
      have h2 := ih fun x hx => h x (.tail _ hx)
      simp only [List.map_cons, List.flatten_cons, List.length_append, List.length_cons]
      lia
  refine ⟨joinOk_of ?_, by lia⟩
  have : (Str.ofString "").length = 0 := by decide +kernel
  rw [this]; lia
theorem kl_ins_take (l : List Value) (c : Nat) (y : Value) (h : c ≤ l.length) : kl_ins l (c : Int) y = l.take c ++ y :: l.drop c := by
  unfold kl_ins
  rw [if_neg (by lia), Int.toNat_natCast, Nat.min_eq_left h]
theorem parts_ins {T : Addr → Array Value → Prop} {its : Array Value} {sg : List Str} {ps : List Rows} {a : Rows} {t : Addr} {tb tn : Tok} {c : Nat} (h : PartsOk T its sg ps) (ht : T t (mailTup sg a tb tn)) (hc : c = spotR sg a ps) : PartsOk T (kl_ins its.toList (c : Int) (.ref t)).toArray sg (insR sg a ps) := by
  subst hc
  have hle := spotR_le sg a ps
  have hl : its.toList.length = ps.length := by rw [Array.length_toList]; exact h.1
  rw [kl_ins_take _ _ _ (by lia)]
  unfold insR
  refine ⟨by have := h.1; simp; lia, fun j r hr => ?_⟩
  rw [List.getElem?_toArray]
  have e1 : (its.toList.take (spotR sg a ps)).length = spotR sg a ps := by rw [List.length_take]; lia
  have e2 : (ps.take (spotR sg a ps)).length = spotR sg a ps := by rw [List.length_take]; lia
  by_cases q1 : j < spotR sg a ps
  · rw [List.getElem?_append_left (by lia), List.getElem?_take_of_lt q1] at hr ⊢
    obtain ⟨t', b1, b2, x, y⟩ := h.2 j r hr
    exact ⟨t', b1, b2, by simpa using x, y⟩
  · rw [List.getElem?_append_right (by lia)] at hr ⊢
    rw [e1]; rw [e2] at hr
    cases hj : j - spotR sg a ps with
    | zero =>
      rw [hj] at hr
      cases hr
      exact ⟨t, tb, tn, rfl, ht⟩
    | succ i =>
      rw [hj] at hr
      simp only [List.getElem?_cons_succ, List.getElem?_drop] at hr ⊢
      obtain ⟨t', b1, b2, x, y⟩ := h.2 _ r hr
      exact ⟨t', b1, b2, by simpa using x, y⟩
theorem fitsIndex (c : Nat) (h : c ≤ 8) : Builtin.List.listFitsIndex (c : Int) = true := by
  have : ∀ c : Nat, c < 9 → Builtin.List.listFitsIndex (c : Int) = true := by decide +kernel
  exact this c (by lia)
theorem nodup_le : ∀ (N : Nat) (l : List Nat), l.Nodup → (∀ x ∈ l, x < N) → l.length ≤ N
  | 0, l, _, h => by
    cases l with
    | nil => simp
    | cons a r => exact absurd (h a (.head _)) (Nat.not_lt_zero _)
  | N + 1, l, hn, h => by
    by_cases q : N ∈ l
    · have h1 := nodup_le N (l.erase N) (hn.erase N) fun x hx => by
        have h2 := h x (List.mem_of_mem_erase hx)
        have h3 : x ≠ N := fun e => by
          rw [e] at hx
          exact (List.Nodup.not_mem_erase hn) hx
        lia
      rw [List.length_erase_of_mem q] at h1
      lia
    · have h1 := nodup_le N l hn fun x hx => by
        have h2 := h x hx
        have h3 : x ≠ N := fun e => q (e ▸ hx)
        lia
      lia
theorem nodup_map {l : List Int} (f : Int → Nat) (hf : ∀ a ∈ l, ∀ b ∈ l, f a = f b → a = b) (h : l.Nodup) : (l.map f).Nodup := by
  induction l with
  | nil => exact List.nodup_nil
  | cons a r ih =>
    rw [List.nodup_cons] at h
    rw [List.map_cons, List.nodup_cons]
    refine ⟨fun q => ?_, ih (fun x hx y hy => hf x (.tail _ hx) y (.tail _ hy)) h.2⟩
    obtain ⟨b, hb, e⟩ := List.mem_map.mp q
    exact h.1 (hf b (.tail _ hb) a (.head _) e ▸ hb)
theorem book_len {T : Addr → Array Value → Prop} {kvs : List (Int × Value)} {n : Nat} {sg : List Str} {M : Nat → Int → Rows} (h : BookOk T kvs n sg M) (hn : (kvs.map (·.1)).Nodup) (h8 : n ≤ 8) : kvs.length ≤ 200 := by
  have hr : ∀ x ∈ kvs.map (·.1), -1 ≤ x ∧ x < 127 := fun x hx => by
    obtain ⟨e, he, rfl⟩ := List.mem_map.mp hx
    obtain ⟨v, u, t, tb, tn, a, b, c, rfl, _⟩ := h e he
    show -1 ≤ 16 * (v : Int) + u ∧ 16 * (v : Int) + u < 127
    lia
  have := nodup_le 200 ((kvs.map (·.1)).map fun x => (x + 1).toNat) (nodup_map _ (fun a ha b hb e => by
    have := hr a ha; have := hr b hb
    lia) hn) fun x hx => by
    obtain ⟨y, hy, rfl⟩ := List.mem_map.mp hx
    have := hr y hy
    lia
  simpa using this
theorem mem_stored {kvs : List (Int × Value)} {k : Int} {v : Value} {e : Int × Value} (h : e ∈ stored kvs k v) : e ∈ kvs ∨ e = (k, v) := by
  unfold stored at h
  split at h
  · obtain ⟨y, hy, rfl⟩ := List.mem_map.mp h
    by_cases q : y.1 = k
    · rw [if_pos q, q]; exact .inr rfl
    · rw [if_neg q]; exact .inl hy
  · rcases List.mem_append.mp h with h | h
    · exact .inl h
    · exact .inr (List.mem_singleton.mp h)
theorem stored_old {kvs : List (Int × Value)} {k : Int} {v : Value} {e : Int × Value} (h : e ∈ kvs) (hk : e.1 ≠ k) : e ∈ stored kvs k v := by
  unfold stored
  split
  · exact List.mem_map.mpr ⟨e, h, by rw [if_neg hk]⟩
  · exact List.mem_append_left _ h
theorem stored_new {kvs : List (Int × Value)} {k : Int} {v : Value} : (k, v) ∈ stored kvs k v := by
  unfold stored
  split
  · rename_i h
    obtain ⟨e, he, hk⟩ := List.any_eq_true.mp h
    simp only [decide_eq_true_eq] at hk
    exact List.mem_map.mpr ⟨e, he, by rw [if_pos hk, hk]⟩
  · exact List.mem_append_right _ (.head _)
theorem valueAt_none {kvs : List (Int × Value)} {k : Int} (h : valueAt kvs k = none) {e : Int × Value} (he : e ∈ kvs) : e.1 ≠ k := fun q => by
  unfold valueAt at h
  rw [Option.map_eq_none_iff, List.find?_eq_none] at h
  exact h e he (by simpa using q)
section
variable {prog : Program} {w : World} {A : Around} {E : Value → Shared → Prop} {s : Shared} {h₀ : Heap} {L d : Addr} {m : Str → Option Value} {news : List (Addr × Obj)} {g : Obj → List (Addr × Obj)} {o : Obj}
theorem setItem_dct {k : Int} {t : Tok} {v : Value} {kvs : List (Int × Value)} {Q : Unit → Shared → Prop} (F : Fr h₀ L s.heap m) (N : News h₀ L s.heap news) (U : UpdF d o news g) (hd : o.IsDictOf (intKind prog w) kvs)
    (hsz : kvs.length ≤ sizeLine) (h : ∀ h' o', Fr h₀ L h' m → News h₀ L h' (g o') → o'.IsDictOf (intKind prog w) (stored kvs k v) → Q () { s with heap := h', toks := s.toks + 1 }) :
    wpAny (model prog w) A (setItem (.ref d) (.int k t) v) Q E s := by
  obtain ⟨pre, post, rfl, hg, a, b⟩ := U.split
  have hm := N (d, o) (List.mem_append_right _ (.head _))
  refine wpAny_setItem_pairs (hsz := hsz) (intKind_is _ _ _ _) (Heap.dictOf_iff.mpr ⟨o, hm.1, hd⟩) fun h' hmm hs => ?_
  obtain ⟨o', ho', hd'⟩ := Heap.dictOf_iff.mp hmm
  exact h h' o' (F.change hs hm.2.1 hm.2.2) (hg o' ▸ N.setIn a b hs ho') hd'
end
section
variable {prog : Program} {w : World} {A : Around} {E : Value → Shared → Prop} {s : Shared}
theorem item_lst {value slice : Expr} {a : Addr} {its : Array Value} {k : Int} {u : Tok} {x : Value} {Q : Value → Shared → Prop} (hl : s.heap.IsList a its) (h0 : 0 ≤ k) (hhi : k < 2 ^ 63) (hx : its[k.toNat]? = some x) (h : Q x s)
    (hs : subscripted slice false (.ref a) (.int k u) = operate [.ref a, .int k u] (getItem (.ref a) (.int k u)) := by with_unfolding_all rfl) :
    wpAny (model prog w) A (subscriptTail value slice (.ref a) (.int k u)) Q E s := tail_any hl.typeIs slot_list_getitem.lookup (wpAny_getItem_list hl h0 hhi hx h) hs
theorem item_dct {value slice : Expr} {d : Addr} {o : Obj} {kvs : List (Int × Value)} {k : Int} {u : Tok} {x : Value} {Q : Value → Shared → Prop} (ho : s.heap.get? d = some o) (hd : o.IsDictOf (intKind prog w) kvs) (hx : valueAt kvs k = some x)
    (h : Q x { s with toks := s.toks + 1 })
    (hs : subscripted slice false (.ref d) (.int k u) = operate [.ref d, .int k u] (getItem (.ref d) (.int k u)) := by with_unfolding_all rfl) :
    wpAny (model prog w) A (subscriptTail value slice (.ref d) (.int k u)) Q E s :=
  have hm : s.heap.DictOf (intKind prog w) d kvs := Heap.dictOf_iff.mpr ⟨o, ho, hd⟩
  tail_any hm.typeIs slot_dict_getitem.lookup (wpAny_getItem_of (intKind_is _ _ _ _) hm.mapOf hx h) hs
theorem notin_dct {d : Addr} {o : Obj} {kvs : List (Int × Value)} {k : Int} {u : Tok} {Q : Value → Shared → Prop} (hds : (d == sysModules) = false) (ho : s.heap.get? d = some o) (hd : o.IsDictOf (intKind prog w) kvs)
    (h : Q (.bool (!(valueAt kvs k).isSome)) { s with toks := s.toks + 1 }) : wpAny (model prog w) A (compareOp .NotIn (.int k u) (.ref d)) Q E s :=
  have hm : s.heap.DictOf (intKind prog w) d kvs := Heap.dictOf_iff.mpr ⟨o, ho, hd⟩
  wpAny_notIn_of (intKind_is _ _ _ _) hds hm.mapOf h
end
section
variable {w : World} {mean : ExcName → Option Value} {mg mb : Str → Option Value}
theorem quote_node_spec {A : Around} {s : Shared} {G : Heap} (X : (hd.heap_39 w.params).In G) (T : Top PV LO mean mg mb G) (st : G.StaysIn s.heap) (hd : A.depth + 1 < recursionLimit) {sg : List Str} (S : Signs' sg) {k : Nat} (hk : k < 4) {ps : List Rows} (h : ∀ r ∈ ps, ∀ p ∈ r, p.2 < 4 ∧ 1 ≤ p.1)
    (hsz : (ps.map (mailL sg)).flatten.length ≤ 10000) {x : Str} (hx : x.cps.toList = 46 :: (sg.getD k Str.empty).cps.toList ++ 10 :: (ps.map (mailL sg)).flatten) (tx : Tok) :
    wpAny (MD w) A (call (.ref 48) [.str x tx]) (Calm s fun v _ => ∃ t, v = .str (textR sg (nodeR k ps)) t) NE s := by
  have hxe : x = strL (46 :: (sg.getD k Str.empty).cps.toList ++ 10 :: (ps.map (mailL sg)).flatten) := by rw [← hx]; rfl
  have hp := paired_node S hk h
  rw [← hxe] at hp
  refine wpAny_mono (quote_spec X T st hd x tx hp ?_) (fun v s' q => ?_) fun _ _ y => y
  · have h1 : x.cps.size = x.cps.toList.length := by simp
    have h2 := S.short _ (sg_mem S.toSigns hk)
    rw [h1, hx]
    simp only [List.length_append, List.length_cons, Array.length_toList]
    lia
  · obtain ⟨h', tk', e, st', t, rfl⟩ := q
    exact ⟨h', tk', e, st', t, by rw [hx, quote_node S hk h]; rfl⟩
end
end Mine
end

section
open PySem PySem.W PySem.Spec PySem.Calls PyProof.Rows PyProof.Rows.LCg
set_option Elab.async false
set_option maxRecDepth 100000
namespace Mine
section
variable {w : World} {mean : ExcName → Option Value} {mg mb : Str → Option Value}
structure Stands (g : Heap) (L : Addr) (m : Str → Option Value) (ld : List (Addr × Obj)) (s : Shared) (R : Prop) (s' : Shared) : Prop where
  ex : ∃ h' tk', s' = { s with heap := h', toks := tk' } ∧ Fr g L h' m ∧ News g L h' ld ∧ R
theorem cmpR_ne {sg : List Str} {a b : Rows} (h : sgn (textR sg (bareR a)) (textR sg (bareR b)) ≠ 0) : cmpR sg a b = sgn (textR sg (bareR a)) (textR sg (bareR b)) := by
  unfold cmpR; rw [if_pos (by simpa using h)]
theorem cmpR_eq {sg : List Str} {a b : Rows} (h : sgn (textR sg (bareR a)) (textR sg (bareR b)) = 0) : cmpR sg a b = sgn (textR sg a) (textR sg b) := by
  unfold cmpR; rw [if_neg (by rw [h]; decide)]
theorem useSpecF {α : Type} {M : Model} {A : Around} {t : Sem α} {Q : α → Shared → Prop} {E : Value → Shared → Prop} {s : Shared} {g h : Heap} {L : Addr} {m : Str → Option Value} (_F : Fr g L h m) {P : (Str → Option Value) → α → Shared → Prop} (x : wpAny M A t (P m) NE s) (k : ∀ v s', P m v s' → Q v s') : wpAny M A t Q E s := useSpec x k
inductive WJ (ld0 : List (Addr × Obj)) (len sp : Nat) (t9 pa ta na ba : Addr) (v : Nat) (u : Int) (tv tu tk : Tok) (z : Nat) (m : Str → Option Value) (ld : List (Addr × Obj)) : Prop
  | mk : ∀ (c : Nat) (tc : Tok), ld = ld0 → z = len - c → c ≤ sp → m "spot" = some (.int c tc) → m "part" = some (.ref t9) → m "parts" = some (.ref pa) → m "v" = some (.int v tv) → m "u" = some (.int u tu) → m "ties" = some (.ref ta) →
    m "names" = some (.ref na) → m "book" = some (.ref ba) → m "key" = some (.int (16 * (v : Int) + u) tk) → WJ ld0 len sp t9 pa ta na ba v u tv tu tk z m ld
theorem kw_M3_1 : True := by
  k_with_none
  k_with "mine upd" => first | exact Upd.head (by with_reducible assumption) | exact Upd.tail (by ((try dsimp only); first | with_reducible assumption | (apply Ne.symm; with_reducible assumption))) (by walk_at "mine upd")
  k_with "compareOp NotIn int ref" => (k_here; k_dflt (refine notin_dct (by assumption) (News.get (by k_asm) (by k_mem)) (by assumption) ?_))
  k_with "exec For Name Subscript cons nil" => (k_here; refine Hold.out ?_)
  k_with "subscriptTail Name Name ref int" => (k_here; refine Hold.out ?_)
  k_with "eval ListComp" => (k_here; k_dflt (refine LCg.ListComp_U (F₀ := by k_asm) (by with_unfolding_all rfl) (by decide) (by rfl) (by decide) (by rfl) ?_))
  k_with "binaryOp Add str str" => (k_here; k_dflt (refine PyProof.Rows.add_str ?_ (by with_reducible assumption)); intro _ _)
  k_with "exec While" => (k_here; refine Hold.out ?_)
  k_with "call builtin:len" => (k_here; (with_reducible show wpAny _ _ (call (Value.builtin "len") [Value.ref _]) _ _ _); k_dflt (refine len_list (News.isList (by k_asm) (by k_mem)) (by omega) ?_))
  k_with "subscriptTail Name Name ref int" => (k_here; k_dflt (refine item_lst (News.isList (by k_asm) (by k_mem)) (by omega) (by omega) (by with_reducible assumption) ?_))
  k_with "call builtin:list.insert" => (k_here; k_dflt (refine kl_insert (by k_asm) (by k_asm) (by with_reducible assumption) (by exact rfl) (by walk_at "mine upd") (by with_reducible assumption) ?_); intro _ _ _)
  k_with "mine sub" => (intro _ hp; repeat (first | assumption | apply List.Mem.tail))
  k_with "subscriptTail Name Constant ref int" => (k_here; k_dflt (refine item_tupleT (TupIn.flip (by assumption) (by k_asm) (by k_asm) (by walk_at "mine sub")) (by decide) (by decide) (by rfl) (by rfl) ?_))
  k_with "call ref" => (k_here; refine Hold.out ?_)
  k_with "call ref" => (k_here; (with_reducible show wpAny _ _ (call (Value.ref 76) _) _ _ _); k_dflt (refine calm_flip (by k_asm) (by k_asm) (strcoll_spec (by assumption) (by assumption) (Fr.keep (by k_asm)) (by (simp only [Around.deeper]; omega)) _ _ _ _) ?_); intro _ _ _ ⟨_, kze⟩ _ _; subst kze)
  k_with "pyIter" => (k_here; refine Hold.out ?_)
  k_with "pyIter ref" => (k_here; refine Hold.out ?_)
  trivial
set_option maxHeartbeats 4000000 in
theorem mails_spec {n : Nat} {nb : Nat → List Nat} {kd : Nat → Nat} {sg : List Str} {M : Nat → Int → Rows} {dep : Nat → Int → Nat} (H : Net n nb kd sg M dep) {ta na ba : Addr} (hbm : (ba == sysModules) = false) : ∀ (d : Nat) {A : Around} {s : Shared} {G : Heap}
    (X : (hd.heap_39 w.params).In G) (T : Top PV LO mean mg mb G) (st : G.StaysIn s.heap) (hd : A.depth + d + 3 < recursionLimit) (hA : A.handled = none) (ti : TiesAt G ta n nb) (nm : NamesAt G na n kd sg) {bo : Obj} {kvs : List (Int × Value)}
    (hb : s.heap.get? ba = some bo) (hbG : G.get? ba = none) (hbd : bo.IsDictOf (IK w) kvs) (hbk : BookOk (IsTup s.heap) kvs n sg M) {v : Nat} {u : Int} (hv : v < n) (hu : -1 ≤ u) (hun : u < n) (hdep : dep v u < d) (tv tu : Tok),
    wpAny (MD w) A (call (.ref 81) [.int v tv, .int u tu, .ref ta, .ref na, .ref ba]) (MailPost w s ba kvs n sg M v u) NE s := by
  intro d
  induction d with
  | zero => intro _ _ _ _ _ _ _ _ _ _ _ _ _ _ _ _ _ _ _ _ _ h; exact absurd h (Nat.not_lt_zero _)
  | succ d ih =>
  intro A s G X T st hd hA ti nm bo kvs hb hbG hbd hbk v u hv hu hun hdep tv tu
  k_dflt (refine' enter (binds := [(Str.ofString "v", .int v tv), (Str.ofString "u", .int u tu), (Str.ofString "ties", .ref ta), (Str.ofString "names", .ref na), (Str.ofString "book", .ref ba)]) [(ba, bo)] ?X ?T ?st ?hm ?ho ?hcd ?hroom ?hbind ?hloc ?hcell ?h ?hco ?hgen ?hk; (case X => assumption); (case T => assumption); (case st => assumption); (case hm => (intro p hp; rw [List.mem_singleton.mp hp]; exact ⟨hb, hbG⟩)); (case ho => k_is); (case hcd => k_is); (case hroom => lia); (case hbind => exact rfl); (case hloc => exact locs rfl); (case hcell => decide); (case hco => exact rfl); (case hgen => exact rfl); (case hk => exact rfl))
  intro g L h₁ hg hg' hL F N X' T'
  have hGg : ∀ a o, G.get? a = some o → g.get? a = some o := fun a o e => hg a o (st a o e) (fun q => by
    have q' : a = ba := by simpa using q
    rw [q', hbG] at e; cases e)
  have ti' := ti.keep hGg
  have nm' := nm.keep hGg
  clear ti nm
  have hbk' : BookOk (TupIn g []) kvs n sg M := hbk.mono fun t i x => by
    have hne := tup_ne_dct x hb hbd
    obtain ⟨o, ho, r⟩ := x
    exact ⟨o, .inr (hg _ _ ho (by simpa using hne)), r⟩
  cases hin : (valueAt kvs (16 * (v : Int) + u)) with
  | some x =>
    have hin' : (!(valueAt kvs (16 * (v : Int) + u)).isSome) = false := by rw [hin]; rfl
    show wpAny _ _ _ _ _ _
    k_fold
    k_steps
    refine Hold.mk ?_
    (rename Fr _ _ _ _ => F9)
    (rename News _ _ _ _ => N9)
    k_dflt (refine' item_dct ?o ?k hin ?_; (case o => exact News.get N9 (by k_mem)); (case k => exact hbd))
    dsimp only
    obtain ⟨v', u', t, tb, tn, b1, b2, b3, b4, b5⟩ := hbk' _ (valueAt_some hin)
    obtain ⟨e1, e2⟩ := key_inj H.n8 hv b1 hu hun b2 b3 (Prod.mk.inj b4).1
    subst e1 e2
    obtain rfl := (Prod.mk.inj b4).2
    have hmono : ∀ a o, a ≠ ba → s.heap.get? a = some o → g.get? a = some o := fun a o ne e => hg a o e (by simpa using ne)
    exact ⟨_, _, bo, kvs, t, tb, tn, rfl, fun a o ne e => F9.keep _ _ (hmono a o ne e), (N9 _ (.head _)).1, hbd, hbk'.mono fun t i x => x.isTup F9 N9 (by intro _ h; cases h), fun e he => he, rfl, valueAt_some hin, b5.isTup F9 N9 (by intro _ h; cases h), fun e he => .inl he⟩
  | none =>
    have hin' : (!(valueAt kvs (16 * (v : Int) + u)).isSome) = true := by rw [hin]; rfl
    show wpAny _ _ _ _ _ _
    k_fold
    k_steps
    refine Hold.mk ?_
    refine wpAny_For ?_
    k_steps
    refine Hold.mk ?_
    (rename Fr _ _ _ _ => F1)
    (rename News _ _ _ _ => N1)
    have ti2 := ti'
    obtain ⟨tis, ht1, ht2⟩ := ti'
    obtain ⟨l, its0, hl1, hl2, hl3⟩ := ht2 v hv
    k_dflt (refine' item_lst (its := tis) ?l ?h0 ?h1 ?x ?_; (case l => exact isList_keep F1.keep ht1); (case h0 => lia); (case h1 => have := H.n8; lia); (case x => exact hl1))
    refine' loop_list2 (l := ?l) (items := its0) (MJ w n nb sg M g kvs v u tv tu ta na ba) ?hh ?hkx ?hlo ?hcls ?F ?N ?J0 ?hL ?turn ?done
    case hh => exact hA
    case hkx => exact rfl
    case hlo => exact rfl
    case hcls => exact rfl
    case F => exact F1
    case N => exact N1
    case J0 =>
      have hpb := lst_ne_dct (N1 _ (.head _)).1 (N1 _ (.tail _ (.head _))).1 hbd
      refine ⟨bo, kvs, #[], 0, [], _, _, rfl, hpb, (fun _ h => by cases h), hbd, hbk', fun _ h => h, fun _ h => .inl h, ⟨rfl, fun j r h => by cases h⟩, rfl, rfl, rfl, rfl, rfl, rfl, rfl⟩
    case hL => exact fun h m' ld' i _ F _ => isList_keep F.keep hl2
    case turn =>
      intro i x m₁ ld₁ it itO h₃ tk₃ hx zzJ hitl hne1 hlt hitc F N
      refine hidden fun zzG zzH => ?_
      obtain ⟨bo', kvs', its, k, tups, pa, tkk, rfl, hpb, htp, hbd', hbk2, hsub, hnew, hparts, m1, m2, m3, m4, m5, m6, m7⟩ := zzJ
      clear F1 N1
      have q1 : pa ≠ it := hne1 _ (.head _)
      have q2 : ba ≠ it := hne1 _ (.tail _ (.head _))
      have q3 : ∀ p ∈ tups, p.1 ≠ it := fun p hp => hne1 _ (.tail _ (.tail _ hp))
      rw [norm1 m1, norm1 m2, norm1 m3, norm1 m4, norm1 m5, norm1 m6, norm1 m7] at F
      obtain ⟨wz, tw, rfl, hwz⟩ := IntsAre.at hl3 i x (by simpa using hx)
      rw [List.getElem?_map] at hwz
      obtain ⟨w', hw', rfl⟩ := Option.map_eq_some_iff.mp hwz
      by_cases hwu : (w' : Int) = u
      · have hwu' : ((w' : Int) != u) = false := by simpa using hwu
        refine zzH ?_
        clear zzH zzG
        show wpAny _ _ _ _ _ _
        k_fold
        k_steps
        (rename Fr _ _ _ _ => F9)
        (rename News _ _ _ _ => N9)
        exact ⟨_, _, _, _, rfl, F9, N9, hne1, bo', kvs', its, k, tups, pa, tkk, rfl, hpb, htp, hbd', hbk2, hsub, hnew, by rw [kidsR_skip hw' hwu]; exact hparts, rfl, rfl, rfl, rfl, rfl, rfl, rfl⟩
      · have hwu' : ((w' : Int) != u) = true := by simpa using hwu
        have hwm : w' ∈ nb v := List.mem_of_getElem? hw'
        refine zzH ?_
        clear zzH zzG
        show wpAny _ _ _ _ _ _
        k_fold
        k_steps
        refine Hold.mk ?_
        (rename Fr _ _ _ _ => F9)
        (rename News _ _ _ _ => N9)
        have hbaN := N9 (ba, bo') (.tail _ (.tail _ (.head _)))
        refine' useSpec ?va ?vb
        case va =>
          refine' ih (G := g) (bo := bo') (kvs := kvs') X' T' ?vs ?vd ?vA ti2 nm' ?hb ?hbG hbd' ?hbk ?hv ?hu ?hun ?hdep _ _
          case vs => exact F9.keep
          case vd => show A.depth + 1 + d + 3 < _; lia
          case vA => exact hA
          case hb => exact hbaN.1
          case hbG => exact hbaN.2.2
          case hbk => exact hbk2.mono fun t i x => x.isTup F9 N9 (fun p hp => .tail _ (.tail _ (.tail _ hp)))
          case hv => exact H.nbr v hv w' hwm
          case hu => lia
          case hun => lia
          case hdep => exact Nat.lt_of_lt_of_le (H.depLt v hv u w' hwm hwu) (Nat.le_of_lt_succ hdep)
        intro val s9 zzJ
        refine hidden fun zzG zzH => ?_
        obtain ⟨h9, tk9, bo9, kvs9, t9, tb9, tn9, rfl, hk9, hb9, hbd9, hbk9, hsub9, rfl, hmem9, htup9, hnew9⟩ := zzJ
        have F10 := fr_ext F9 (b := ba) hk9 hbaN.2.1 hbaN.2.2
        obtain ⟨ex, Nx, Bx, Cx⟩ := book_news F10 kvs9 hbk9
        have N10 : News g L h9 ((it, itO) :: (pa, W.listOf its k) :: (ba, bo9) :: (tups ++ ex)) := fun p hp => by
          rcases List.mem_cons.mp hp with rfl | hp
          · have z := N9 (it, itO) (.head _)
            exact ⟨hk9 _ _ (Ne.symm q2) z.1, z.2⟩
          · rcases List.mem_cons.mp hp with rfl | hp
            · have z := N9 (pa, W.listOf its k) (.tail _ (.head _))
              exact ⟨hk9 _ _ hpb z.1, z.2⟩
            · rcases List.mem_cons.mp hp with rfl | hp
              · exact ⟨hb9, hbaN.2⟩
              · rcases List.mem_append.mp hp with hp | hp
                · have z := N9 p (.tail _ (.tail _ (.tail _ hp)))
                  exact ⟨hk9 _ _ (htp p hp).2 z.1, z.2⟩
                · exact Nx p hp
        have hex : ∀ p ∈ ex, p.1 ≠ pa ∧ p.1 ≠ ba ∧ p.1 ≠ it := fun p hp => by
          obtain ⟨items, hi⟩ := Cx p hp
          exact ⟨tup_ne_lst hi (N10 _ (.tail _ (.head _))).1, tup_ne_dct hi hb9 hbd9, tup_ne_cls hi (N10 _ (.head _)).1 hitc⟩
        have htp2 : ∀ p ∈ tups ++ ex, p.1 ≠ pa ∧ p.1 ≠ ba ∧ p.1 ≠ it := fun p hp => by
          rcases List.mem_append.mp hp with hp | hp
          · exact ⟨(htp p hp).1, (htp p hp).2, q3 p hp⟩
          · exact hex p hp
        have hbk3 : BookOk (TupIn g (tups ++ ex)) kvs9 n sg M := Bx.mono fun t i x => x.mono (fun p hp => List.mem_append_right _ hp) fun _ _ h => h
        have hparts2 : PartsOk (TupIn g (tups ++ ex)) its sg (sortR sg (kidsR nb M v u i)) := hparts.mono fun t i x => x.mono (fun p hp => List.mem_append_left _ hp) fun _ _ h => h
        obtain ⟨v3, u3, t3, tb3, tn3, c1, c2, c3, c4, hpt⟩ := hbk3 _ hmem9
        obtain ⟨c5, c6⟩ := key_inj H.n8 (H.nbr v hv w' hwm) c1 (by lia) (by lia) c2 c3 (Prod.mk.inj c4).1
        subst c5 c6
        have c7 := Value.ref.inj (Prod.mk.inj c4).2
        subst c7
        have hsub3 : ∀ e ∈ kvs, e ∈ kvs9 := fun e he => hsub9 e (hsub e he)
        have hnew3 : ∀ e ∈ kvs9, e ∈ kvs ∨ ∃ t : Addr, e.2 = .ref t ∧ g.get? t = none ∧ t ≠ ba := fun e he => by
          rcases hnew9 e he with h | ⟨t, h1, h2⟩
          · exact hnew e h
          · refine .inr ⟨t, h1, ?_, fun q => ?_⟩
            · cases q : g.get? t with
              | none => rfl
              | some o => have := F9.keep _ _ q; rw [h2] at this; cases this
            · rw [q, hbaN.1] at h2; cases h2
        have hupd : ∀ p ∈ (ba, bo9) :: (tups ++ ex), p.1 ≠ pa := fun p hp => by
          rcases List.mem_cons.mp hp with rfl | hp
          · exact Ne.symm hpb
          · exact (htp2 p hp).1
        have hne10 : ∀ its', ∀ p ∈ (pa, W.listOf its' (k + 1)) :: (ba, bo9) :: (tups ++ ex), p.1 ≠ it := fun its' p hp => by
          rcases List.mem_cons.mp hp with rfl | hp
          · exact q1
          · rcases List.mem_cons.mp hp with rfl | hp
            · exact q2
            · exact (htp2 p hp).2.2
        clear Nx Bx Cx hex hbk9 htup9 hk9 hnew9 hnew hbk2 hparts c4 hmem9 N9 F9 hb9 hbaN
        generalize tups ++ ex = tups2 at N10 hupd hne10 htp2 hbk3 hparts2 hpt
        generalize hps : sortR sg (kidsR nb M v u i) = ps at hparts2
        refine zzH ?_
        clear zzH zzG
        show wpAny _ _ _ _ _ _
        k_fold
        k_steps
        refine Hold.mk ?_
        (rename Fr _ _ _ _ => F9)
        (rename News _ _ _ _ => N9)
        have hpl : its.size = ps.length := hparts2.1
        have hps8 : ps.length ≤ 8 := by
          rw [← hps, sortR_len]; exact Nat.le_trans (kidsR_len nb M v u i) (H.nbl v hv)
        have hz2 : its.toList.length ≤ sizeLine := by rw [sizeLine_eq, Array.length_toList]; lia
        have hspot : ∀ c q, ps[c]? = some q → 0 < cmpR sg (M w' v) q → c ≤ spotR sg (M w' v) ps → c + 1 ≤ spotR sg (M w' v) ps := fun c q hq h1 h2 => by
          rcases Nat.lt_or_eq_of_le h2 with h | h
          · exact h
          · exact absurd h1 (spotR_at (h ▸ hq))
        have hspot2 : ∀ c q, ps[c]? = some q → ¬ 0 < cmpR sg (M w' v) q → c ≤ spotR sg (M w' v) ps → c = spotR sg (M w' v) ps := fun c q hq h1 h2 => by
          rcases Nat.lt_or_eq_of_le h2 with h | h
          · exact absurd (spotR_lt h hq) h1
          · exact h
        refine While_inv2 (WJ ((it, itO) :: (pa, W.listOf its k) :: (ba, bo9) :: tups2) ps.length (spotR sg (M w' v) ps) t9 pa ta na ba v u tv tu tkk) (n₀ := ps.length) F9 N9 ?hJ ?wt PassesOwn.never
        case hJ => exact ⟨0, _, rfl, rfl, Nat.zero_le _, rfl, rfl, rfl, rfl, rfl, rfl, rfl, rfl, rfl⟩
        case wt =>
          clear F9 N9
          intro z m2 ld2 h5 tk5 F N zzJ
          refine hidden fun zzG zzH => ?_
          obtain ⟨c, tc, rfl, rfl, hc, p1, p2, p3, p4, p5, p6, p7, p8, p9⟩ := zzJ
          rw [norm1 p1, norm1 p2, norm1 p3, norm1 p4, norm1 p5, norm1 p6, norm1 p7, norm1 p8, norm1 p9] at F
          refine zzH ?_
          clear zzH zzG
          have hcl : c ≤ ps.length := Nat.le_trans hc (spotR_le _ _ _)
          have hfit := fitsIndex c (by lia)
          refine useSpecF F (P := fun mm b => Stands g L mm ((it, itO) :: (pa, W.listOf its k) :: (ba, bo9) :: tups2) s (if b = true then c < ps.length ∧ c + 1 ≤ spotR sg (M w' v) ps else c = spotR sg (M w' v) ps)) ?wt1 ?wt2
          case wt1 =>
            clear hbd9 hsub3 hnew3 hne10 hupd htp2
            by_cases hlt2 : c < ps.length
            · obtain ⟨q, hq⟩ : ∃ q, ps[c]? = some q := ⟨_, List.getElem?_eq_getElem hlt2⟩
              obtain ⟨tq, tqb, tqn, hq1, hq2⟩ := hparts2.2 c q hq
              have hq1' : its[((c : Nat) : Int).toNat]? = some (.ref tq) := hq1
              have hlt3 : decide ((c : Int) < ((its.size : Nat) : Int)) = true := by rw [decide_eq_true_eq]; lia
              show wpAny _ _ _ _ _ _
              k_fold
              k_steps
              all_goals
                (rename Fr _ _ _ _ => F9)
                (rename News _ _ _ _ => N9)
              · (rename sgn _ _ ≠ 0 => hz)
                (rename 0 < sgn _ _ => hpos)
                exact ⟨_, _, rfl, F9, N9, And.intro hlt2 (hspot c q hq (by rw [cmpR_ne hz]; exact hpos) hc)⟩
              · (rename sgn _ _ ≠ 0 => hz)
                (rename ¬ 0 < sgn _ _ => hpos)
                exact ⟨_, _, rfl, F9, N9, hspot2 c q hq (by rw [cmpR_ne hz]; exact hpos) hc⟩
              · (rename sgn _ _ = 0 => hz)
                (rename 0 < sgn _ _ => hpos)
                exact ⟨_, _, rfl, F9, N9, And.intro hlt2 (hspot c q hq (by rw [cmpR_eq hz]; exact hpos) hc)⟩
              · (rename sgn _ _ = 0 => hz)
                (rename ¬ 0 < sgn _ _ => hpos)
                exact ⟨_, _, rfl, F9, N9, hspot2 c q hq (by rw [cmpR_eq hz]; exact hpos) hc⟩
            · have hlt3 : decide ((c : Int) < ((its.size : Nat) : Int)) = false := by rw [decide_eq_false_iff_not]; lia
              have hce : c = spotR sg (M w' v) ps := Nat.le_antisymm hc (Nat.le_trans (spotR_le _ _ _) (by lia))
              show wpAny _ _ _ _ _ _
              k_fold
              k_steps
              (rename Fr _ _ _ _ => F9)
              (rename News _ _ _ _ => N9)
              exact ⟨_, _, rfl, F9, N9, hce⟩
          case wt2 =>
            intro b _ zzJ
            refine hidden fun zzG zzH => ?_
            obtain ⟨h', tk', rfl, F, N, hb⟩ := zzJ
            cases b with
            | true =>
              refine zzH ?_
              clear zzH zzG
              show wpAny _ _ _ _ _ _
              k_fold
              k_steps
              (rename Fr _ _ _ _ => F9)
              (rename News _ _ _ _ => N9)
              exact ⟨_, _, _, _, ps.length - (c + 1), rfl, F9, N9, by have := hb.1; lia, c + 1, _, rfl, rfl, hb.2, rfl, rfl, rfl, rfl, rfl, rfl, rfl, rfl, rfl⟩
            | false =>
              refine zzH ?_
              clear zzH zzG
              show wpAny _ _ _ _ _ _
              k_fold
              k_steps
              (rename Fr _ _ _ _ => F9)
              (rename News _ _ _ _ => N9)
              exact ⟨_, _, _, _, rfl, F9, N9, hne10 _, bo9, kvs9, _, k + 1, tups2, pa, tkk, rfl, hpb, fun p hp => ⟨(htp2 p hp).1, (htp2 p hp).2.1⟩, hbd9, hbk3, hsub3, hnew3, by rw [kidsR_add hw' hwu, sortR_snoc, hps]; exact parts_ins hparts2 hpt hb, rfl, rfl, rfl, rfl, rfl, rfl, rfl⟩
    case done =>
      clear F1 N1
      intro m₁ ld₁ h₃ tk₃ zzJ F N
      refine hidden fun zzG zzH => ?_
      obtain ⟨bo', kvs', its, k, tups, pa, tkk, rfl, hpb, htp, hbd', hbk2, hsub, hnew, hparts, m1, m2, m3, m4, m5, m6, m7⟩ := zzJ
      rw [norm1 m1, norm1 m2, norm1 m3, norm1 m4, norm1 m5, norm1 m6, norm1 m7] at F
      refine zzH ?_
      clear zzH zzG
      k_steps
      (rename Fr _ _ _ _ => F9)
      (rename News _ _ _ _ => N9)
      have hpl := hparts.1
      have hi0 : its0.size = (nb v).length := by
        have := hl3.length
        simpa using this
      generalize hps : sortR sg (kidsR nb M v u its0.size) = ps at hparts hpl
      have hps8 : ps.length ≤ 8 := by
        rw [← hps, sortR_len]; exact Nat.le_trans (kidsR_len nb M v u _) (H.nbl v hv)
      have hrow : ∀ r ∈ ps, (∀ p ∈ r, p.2 < 4 ∧ 1 ≤ p.1 ∧ 4 * p.1 + p.2 < 64) ∧ r.length ≤ 8 := fun r hr => by
        obtain ⟨w, hw, rfl⟩ := mem_kidsR (mem_sortR (hps ▸ hr))
        exact ⟨H.row w (H.nbr v hv w hw) v, H.len w (H.nbr v hv w hw) v⟩
      have hrow2 : ∀ r ∈ ps, ∀ p ∈ r, p.2 < 4 ∧ 1 ≤ p.1 := fun r hr p hp => ⟨((hrow r hr).1 p hp).1, ((hrow r hr).1 p hp).2.1⟩
      have hbrow : ∀ r ∈ ps.map bareR, (∀ p ∈ r, p.2 < 4 ∧ 1 ≤ p.1 ∧ 4 * p.1 + p.2 < 64) ∧ r.length ≤ 8 := fun r hr => by
        obtain ⟨q, hq, rfl⟩ := List.mem_map.mp hr
        refine ⟨fun p hp => ?_, by unfold bareR; rw [List.length_map]; exact (hrow q hq).2⟩
        obtain ⟨y, hy, rfl⟩ := List.mem_map.mp hp
        have := (hrow q hq).1 y hy
        exact ⟨Nat.zero_lt_succ 3, this.2.1, by show 4 * y.1 + 0 < 64; lia⟩
      have hbrow2 : ∀ r ∈ ps.map bareR, ∀ p ∈ r, p.2 < 4 ∧ 1 ≤ p.1 := fun r hr p hp => ⟨((hbrow r hr).1 p hp).1, ((hbrow r hr).1 p hp).2.1⟩
      have hsz1 : its.size ≤ sizeLine := by rw [sizeLine_eq]; lia
      refine CompSrc.ledger hA F9 N9 (.head _) hsz1 ?_
      intro h5
      refine comp_inv (fun i ys nw => nw = (pa, W.listOf its k) :: (ba, bo') :: tups ∧ ∃ l : List (Str × Tok), ys = strValues l ∧ l.map (·.1) = (ps.take i).map fun r => textR sg (bareR r)) ?_ ?_ _ _ _ _ (Nat.zero_add _) ⟨rfl, [], rfl, rfl⟩
      · rintro i ys nw x I oI C oC D3 m2 h6 tk6 hi ⟨rfl, ls, rfl, hls⟩ hx hoC hm2x F6 N6 hoff hne3
        obtain ⟨r, hr⟩ : ∃ r, ps[i]? = some r := ⟨_, List.getElem?_eq_getElem (by lia)⟩
        obtain ⟨tq, tqb, tqn, hq1, hq2⟩ := hparts.2 i r hr
        rw [hq1] at hx
        obtain rfl := Option.some.inj hx
        show wpAny _ _ _ _ _ _
        k_fold
        k_steps
        (rename Fr _ _ _ _ => F9)
        (rename News _ _ _ _ => N9)
        exact ⟨_, _, _, rfl, F9, N9, hoff, .inr ⟨_, .head _, rfl, _, rfl⟩, rfl, ls ++ [(textR sg (bareR r), tqb)], by simp [strValues], by rw [List.map_append, hls, List.take_add_one, hr]; simp⟩
      · rintro ys nw ⟨rfl, ls, rfl, hls⟩ D3 h6 tk6 F6 N6 hoff
        have hls2 : ls.map (·.1) = (ps.map bareR).map (textR sg) := by
          rw [hls, List.take_of_length_le (by lia), List.map_map]; rfl
        show wpAny _ _ _ _ _ _
        k_fold
        k_steps
        (rename Fr _ _ _ _ => F9)
        (rename News _ _ _ _ => N9)
        have hto := texts_ok (sg := sg) (l := ps.map bareR) (fun r hr => mail_len H.S (hbrow r hr).1 (hbrow r hr).2) (by rw [List.length_map]; exact hps8)
        k_dflt (refine SC.join (l := ls) (News.isList N9 (.head _)) hls2 hto.1 ?_)
        intro tj kj
        have hjl := join_nil sg (ps.map bareR)
        have hsz2 : (Str.ofString ".\n").length + (Txt.join (Str.ofString "") ((ps.map bareR).map (textR sg))).length ≤ sizeLine := by
          have e1 : (Str.ofString ".\n").length = 2 := by decide +kernel
          have e2 : (Txt.join (Str.ofString "") ((ps.map bareR).map (textR sg))).length = (Txt.join (Str.ofString "") ((ps.map bareR).map (textR sg))).cps.toList.length := by show Array.size _ = _; simp
          rw [e1, e2, hjl, sizeLine_eq]; lia
        k_steps
        refine Hold.mk ?_
        (rename Fr _ _ _ _ => F10)
        (rename News _ _ _ _ => N10)
        refine' calm_use ?yva F10 N10 ?yvb
        case yva =>
          refine' quote_node_spec X' T' ?yvs ?yvd H.S (k := 0) (by decide) (ps := ps.map bareR) hbrow2 hto.2 ?yvx _
          case yvs => exact F10.keep
          case yvd => show A.depth + 1 + 1 < _; lia
          case yvx =>
            rw [H.sg0]
            show ((Str.ofString ".\n").cps ++ (Txt.join (Str.ofString "") ((ps.map bareR).map (textR sg))).cps).toList = _
            rw [Array.toList_append, hjl, show (Str.ofString ".\n").cps.toList = [46, 10] by decide +kernel]
            rfl
        rintro h8 tk8 _ ⟨tb8, rfl⟩ F11 N11
        clear F10 N10 F9 N9
        k_steps
        refine Hold.mk ?_
        obtain ⟨nis, hn1, hn2⟩ := nm'
        obtain ⟨tnm, hn3⟩ := hn2 v hv
        (rename Fr _ _ _ _ => F12)
        (rename News _ _ _ _ => N12)
        k_dflt (refine' item_lst (its := nis) ?zz1 ?zz2 ?zz3 hn3 ?_; (case zz1 => exact isList_keep F12.keep hn1); (case zz2 => lia); (case zz3 => have := H.n8; lia))
        have hnl := H.S.short _ (sg_mem H.S.toSigns (H.kd4 v hv))
        have hnl' : (sg.getD (kd v) Str.empty).length = (sg.getD (kd v) Str.empty).cps.size := rfl
        have ht1 : (Str.ofString ".").length + (sg.getD (kd v) Str.empty).length ≤ sizeLine := by
          rw [show (Str.ofString ".").length = 1 by decide +kernel, sizeLine_eq]; lia
        have ht2 : (Str.ofString "." ++ sg.getD (kd v) Str.empty).length + (Str.ofString "\n").length ≤ sizeLine := by
          rw [show (Str.ofString "\n").length = 1 by decide +kernel, sizeLine_eq]
          show ((Str.ofString ".").cps ++ (sg.getD (kd v) Str.empty).cps).size + 1 ≤ _
          rw [Array.size_append, show (Str.ofString ".").cps.size = 1 by decide +kernel]; lia
        k_steps
        (rename Fr _ _ _ _ => F13)
        (rename News _ _ _ _ => N13)
        refine CompSrc.ledger hA F13 N13 (.tail _ (.head _)) hsz1 ?_
        intro h9
        refine comp_inv (fun i ys nw => nw = (D3, lst (strValues ls)) :: (pa, W.listOf its k) :: (ba, bo') :: tups ∧ ∃ l : List (Str × Tok), ys = strValues l ∧ l.map (·.1) = (ps.take i).map fun r => textR sg r) ?_ ?_ _ _ _ _ (Nat.zero_add _) ⟨rfl, [], rfl, rfl⟩
        · rintro i ys nw x I oI C oC D4 m2 h10 tk10 hi ⟨rfl, ls2, rfl, hls3⟩ hx hoC hm2x F6 N6 hoff hne3
          obtain ⟨r, hr⟩ : ∃ r, ps[i]? = some r := ⟨_, List.getElem?_eq_getElem (by lia)⟩
          obtain ⟨tq, tqb, tqn, hq1, hq2⟩ := hparts.2 i r hr
          rw [hq1] at hx
          obtain rfl := Option.some.inj hx
          show wpAny _ _ _ _ _ _
          k_fold
          k_steps
          (rename Fr _ _ _ _ => F9)
          (rename News _ _ _ _ => N9)
          exact ⟨_, _, _, rfl, F9, N9, hoff, .inr ⟨_, .tail _ (.head _), rfl, _, rfl⟩, rfl, ls2 ++ [(textR sg r, tqn)], by simp [strValues], by rw [List.map_append, hls3, List.take_add_one, hr]; simp⟩
        · rintro ys nw ⟨rfl, ls2, rfl, hls3⟩ D4 h10 tk10 F6 N6 hoff
          have hls4 : ls2.map (·.1) = ps.map (textR sg) := by
            rw [hls3, List.take_of_length_le (by lia)]
          show wpAny _ _ _ _ _ _
          k_fold
          k_steps
          (rename Fr _ _ _ _ => F9)
          (rename News _ _ _ _ => N9)
          have hto2 := texts_ok (sg := sg) (l := ps) (fun r hr => mail_len H.S (hrow r hr).1 (hrow r hr).2) hps8
          k_dflt (refine SC.join (l := ls2) (News.isList N9 (.head _)) hls4 hto2.1 ?_)
          intro tj2 kj2
          have hjl2 := join_nil sg ps
          have hsz3 : (Str.ofString "." ++ sg.getD (kd v) Str.empty ++ Str.ofString "\n").length + (Txt.join (Str.ofString "") (ps.map (textR sg))).length ≤ sizeLine := by
            have e2 : (Txt.join (Str.ofString "") (ps.map (textR sg))).length = (Txt.join (Str.ofString "") (ps.map (textR sg))).cps.toList.length := by show Array.size _ = _; simp
            rw [e2, hjl2, sizeLine_eq]
            show (((Str.ofString ".").cps ++ (sg.getD (kd v) Str.empty).cps) ++ (Str.ofString "\n").cps).size + _ ≤ _
            rw [Array.size_append, Array.size_append, show (Str.ofString ".").cps.size = 1 by decide +kernel, show (Str.ofString "\n").cps.size = 1 by decide +kernel]; lia
          k_steps
          refine Hold.mk ?_
          (rename Fr _ _ _ _ => F10)
          (rename News _ _ _ _ => N10)
          refine' calm_use ?wva F10 N10 ?wvb
          case wva =>
            refine' quote_node_spec X' T' ?wvs ?wvd H.S (k := kd v) (H.kd4 v hv) (ps := ps) hrow2 hto2.2 ?wvx _
            case wvs => exact F10.keep
            case wvd => show A.depth + 1 + 1 < _; lia
            case wvx =>
              show (((Str.ofString ".").cps ++ (sg.getD (kd v) Str.empty).cps ++ (Str.ofString "\n").cps) ++ (Txt.join (Str.ofString "") (ps.map (textR sg))).cps).toList = _
              rw [Array.toList_append, Array.toList_append, Array.toList_append, hjl2, show (Str.ofString ".").cps.toList = [46] by decide +kernel, show (Str.ofString "\n").cps.toList = [10] by decide +kernel]
              simp
          rintro h11 tk11 _ ⟨tn8, rfl⟩ F11 N11
          clear F10 N10
          k_steps
          (rename Fr _ _ _ _ => F14)
          (rename News _ _ _ _ => N14)
          have z1 := (N14 _ (.tail _ (.tail _ (.tail _ (.tail _ (.head _)))))).1
          have z2 := lst_ne_dct (N14 _ (.tail _ (.head _))).1 z1 hbd'
          have z3 := lst_ne_dct (N14 _ (.tail _ (.tail _ (.head _)))).1 z1 hbd'
          have z4 := tup_ne_dct (News.isTup N14 (.head _)) z1 hbd'
          have z5 : kvs'.length ≤ sizeLine := by
            obtain ⟨es, ep, hb1, hb2, hb3, hb4, hb5⟩ := id hbd'
            have := book_len hbk2 hb5 H.n8
            rw [sizeLine_eq]; lia
          refine setItem_dct F14 N14 (.tail z4 (.tail z2 (.tail z3 (.tail hpb (.head fun p hp => (htp p hp).2))))) hbd' z5 ?_
          intro h12 bo2 F15 N15 hbd2
          clear F14 N14 z1
          k_steps
          refine Hold.mk ?_
          (rename Fr _ _ _ _ => F16)
          (rename News _ _ _ _ => N16)
          obtain ⟨es2, ep2, c1, c2, c3, c4, c5⟩ := id hbd2
          have hmem := N16 (ba, bo2) (.tail _ (.tail _ (.tail _ (.tail _ (.head _)))))
          k_dflt (refine' item_dct hmem.1 hbd2 (valueAt_mem c5 stored_new) ?_)
          k_steps
          have hM : M v u = nodeR (kd v) ps := by
            rw [H.eq v hv u, ← hps, hi0]
            unfold kidsR
            rw [List.take_length]
          have hmono : ∀ a o, a ≠ ba → s.heap.get? a = some o → g.get? a = some o := fun a o ne e => hg a o e (by simpa using ne)
          have hsub9 : ∀ t' i', TupIn g tups t' i' → IsTup _ t' i' := fun t' i' x => x.isTup F16 N16 (fun p hp => .tail _ (.tail _ (.tail _ (.tail _ (.tail _ hp)))))
          have hnew1 := News.isTup N16 (.head _)
          rw [← bareR_node (kd v) ps, ← hM] at hnew1
          refine ⟨_, _, bo2, _, _, tb8, tn8, rfl, fun a o ne e => F16.keep _ _ (hmono a o ne e), hmem.1, hbd2, ?_, fun e he => stored_old (hsub e he) (valueAt_none hin he), rfl, stored_new, hnew1, ?_⟩
          rotate_left
          · intro e he
            have hn : ∀ t : Addr, t ≠ ba → g.get? t = none → s.heap.get? t = none := fun t h1 h2 => by
              cases q : s.heap.get? t with
              | none => rfl
              | some o => have := hmono t o h1 q; rw [h2] at this; cases this
            rcases mem_stored he with he | rfl
            · rcases hnew e he with h | ⟨t, h1, h2, h3⟩
              · exact .inl h
              · exact .inr ⟨t, h1, hn t h3 h2⟩
            · exact .inr ⟨_, rfl, hn _ z4 (N16 _ (.head _)).2.2⟩
          intro e he
          rcases mem_stored he with he | rfl
          · obtain ⟨v', u', t', tb', tn', d1, d2, d3, d4, d5⟩ := hbk2 e he
            exact ⟨v', u', t', tb', tn', d1, d2, d3, d4, hsub9 _ _ d5⟩
          · exact ⟨v, u, _, tb8, tn8, hv, hu, hun, rfl, hnew1⟩
end
theorem kw_M3_z : True := by
  k_with_none
  trivial
end Mine
end

section
open PySem PySem.W PySem.Spec PySem.Calls PyProof.Rows PyProof.Rows.LCg PyProof.Rows.LCt
set_option Elab.async false
set_option maxRecDepth 100000
namespace Mine
section
variable {w : World} {mean : ExcName → Option Value} {mg mb : Str → Option Value}
/-- a plain def with cells -/
theorem enterC {A : Around} {s : Shared} {G : Heap} {name qual : Str} {params : Arguments} {body : List Stmt} {scope : Scope} {dV kV doc pm cdv ct oc : Value} {an od : Option Addr} {osl : Array (Option Value)} {f : Addr} {args : List Value} {binds : List (Str × Value)} {R : Value → Shared → Prop} (lg : List (Addr × Obj))
    (X : (hd.heap_39 w.params).In G) (T : Top PV LO mean mg mb G) (st : G.StaysIn s.heap) (hm : ∀ p ∈ lg, s.heap.get? p.1 = some p.2 ∧ G.get? p.1 = none)
    (ho : (hd.heap_39 w.params).lookup f = some ⟨oc, od, .func (fnOf name qual params body scope dV kV doc pm an cdv ct), osl⟩) (hcd : codeIn (hd.heap_39 w.params) cdv qual = true)
    (hroom : A.depth < recursionLimit) (hbind : bindArgs (fnOf name qual params body scope dV kV doc pm an cdv ct) ⟨args, []⟩ = pure binds) (hkind : (binds.all fun y => scope.names.lookup y.1 == some .local || scope.names.lookup y.1 == some .cell) = true)
    (hnd : ((cellsFrom 0 scope.names []).map (·.1)).Nodup)
    (h : ∀ g L' h₁ tk cells, (∀ a o, s.heap.get? a = some o → a ∉ lg.map Prod.fst → g.get? a = some o) → (∀ a o, g.get? a = some o → s.heap.get? a = some o) → L' = s.heap.objs.size →
      Fr g L' h₁ (bindL (envOfC qual scope L' f cdv).kindOf binds fun _ => none) → News g L' h₁ (cells ++ lg) → CellsAre (bindC (envOfC qual scope L' f cdv).kindOf binds fun _ => none) (cellsFrom (L' + 1) scope.names []) cells → (∀ p ∈ lg, p.1 < L') → (hd.heap_39 w.params).In g → Top PV LO mean mg mb g →
      wpAny (MD w) (A.deeper (envOfC qual scope L' f cdv)) (execs body (envOfC qual scope L' f cdv)) (fun fl s' => R (match fl with | .ret v => v | _ => .none) s') NE { s with heap := h₁, toks := tk })
    (hco : scope.isCoroutine = false) (hgen : scope.isGenerator = false) (hk : scope.kind = .function) : wpAny (MD w) A (call (.ref f) args) R NE s := by
  have nm : ∀ b o, G.get? b = some o → b ∉ lg.map Prod.fst := fun b o e q => by
    obtain ⟨p, hp, rfl⟩ := List.mem_map.mp q
    rw [(hm p hp).2] at e; cases e
  have stg : G.StaysIn (hideAll s.heap (lg.map Prod.fst)) := fun b o e => hideAll_get _ (st b o e) (nm b o e)
  have Xs : (hd.heap_39 w.params).In s.heap := X.keeps st
  refine wpAny_call ?_
  refine codeAny_call_function hroom (Xs _ _ ho) rfl hco hgen rfl (codeRec_of Xs hcd) ((BindsTo.of_eq hbind) _ _ _ _ ?_)
  refine wpAny_newFunctionEnv_cells hk (kindsX hkind _) fun env' he s' x => ?_
  subst he
  refine ⟨(T.nolimit.keeps st).keeps x.toInCall.keep, codeAny_func ?_⟩
  obtain ⟨h₁, tk, rfl, _⟩ := x.done
  have hk₁ := x.toInCall.keep
  obtain ⟨cells, NC, Y⟩ := Cl.news (h₀ := s.heap) (Nat.le_refl _) fun n c hm => ⟨x.cell n c (lookup_of_mem_nodup (cellsFrom_names scope.names 0 (s.heap.objs.size + 1) [] [] rfl ▸ hnd) hm), x.above n c hm⟩
  refine wpAny_mono (h (hideAll s.heap (lg.map Prod.fst)) s.heap.objs.size h₁ tk cells (fun a o e n => hideAll_get _ e n) (fun a o e => of_hideAll _ e) rfl ⟨x.toInCall.ns, fun b o e => hk₁ b o (of_hideAll _ e), Nat.le_of_eq (hideAll_size _ _)⟩
    (fun p hp => ?_) Y (fun p hp => Heap.lt_size (hm p hp).1) (X.keeps stg) (T.keeps stg)) (fun fl s' hl => hl) fun _ _ y => y.elim
  rcases List.mem_append.mp hp with hp | hp
  · refine ⟨(NC p hp).1, (NC p hp).2.1, ?_⟩
    cases q : (hideAll s.heap (lg.map Prod.fst)).get? p.1 with
    | none => rfl
    | some o => have := of_hideAll _ q; rw [(NC p hp).2.2] at this; cases this
  · exact ⟨hk₁ _ _ (hm p hp).1, Nat.ne_of_lt (Heap.lt_size (hm p hp).1), hideAll_none _ (List.mem_map_of_mem hp)⟩
end
section
variable {prog : Program} {w : World} {A : Around} {h₀ : Heap} {L : Addr} {m : Str → Option Value} {env : Env} {ct elt : Expr} {x : Str} {scope : Scope} {cl : List (Str × Addr)} {s : Shared} {S : List (Addr × Obj) → Prop} {P : Nat → Value → Prop} {Fin : List Value → List (Addr × Obj) → Prop}
theorem comp_invT {n : Nat} (J : Nat → List Value → List (Addr × Obj) → Prop)
    (turn : ∀ i ys news v I oI C oC D m₂ h tk, i < n → J i ys news → P i v → NsObj oC m₂ → m₂ x = some v → Fr h₀ L h m → News h₀ L h ((I, oI) :: (C, oC) :: (D, lst ys) :: news) → Off3 I C D news → ((@Ne Nat I C) ∧ (@Ne Nat I D) ∧ (@Ne Nat C D)) →
      wpAny (model prog w) A (isTrue ct (compEnvC scope cl C env) (eval ct (compEnvC scope cl C env))) (fun ok s' => if ok = true then
        wpAny (model prog w) A (eval elt (compEnvC scope cl C env)) (CompEnd h₀ L m { s with heap := h, toks := tk } I oI C oC D (lst ys) S (fun y news' => J (i + 1) (ys ++ [y]) news')) NE s'
        else CompEnd h₀ L m { s with heap := h, toks := tk } I oI C oC D (lst ys) S (fun _ news' => J (i + 1) ys news') Value.none s') NE { s with heap := h, toks := tk })
    (fin : ∀ ys news, J n ys news → Fin ys news) : ∀ k i ys news, i + k = n → J i ys news → CompRestT prog w A h₀ L m env ct elt x scope cl s S P Fin k i ys news
  | 0, i, ys, news, e, hJ => by
    have : i = n := by lia
    subst this
    exact .zero (fin _ _ hJ)
  | k + 1, i, ys, news, e, hJ => .succ fun v I oI C oC D m₂ h tk E' hP hoC hx F N off ne =>
    wpAny_mono (turn i ys news v I oI C oC D m₂ h tk (by lia) hJ hP hoC hx F N off ne) (fun ok s₂ q => by
      cases ok with
      | true =>
        simp only [if_true] at q ⊢
        exact wpAny_mono q (fun y s₃ q => compEnd_mono q fun y n' q' => comp_invT J turn fin k (i + 1) _ _ (by lia) q') fun _ _ q => q.elim
      | false =>
        simp only [Bool.false_eq_true, if_false] at q ⊢
        exact compEnd_mono q fun y n' q' => comp_invT J turn fin k (i + 1) _ _ (by lia) q') fun _ _ q => q.elim
end
end Mine
end

section
open PySem PySem.W PySem.Spec PySem.Calls PyProof.Rows PyProof.Rows.LCg
open PySem.SeqAt (EqAt RcAt)
set_option Elab.async false
set_option maxRecDepth 100000
namespace Mine
def IntList (h : Heap) (l : Addr) (xs : List Int) : Prop := ∃ o, h.get? l = some o ∧ o.cls = .type "list" ∧ ∃ its n, o.data = .seq its n ∧ IntsAre its.toList xs
def LstIn (g : Heap) (lsts : List (Addr × Obj)) (l : Addr) (xs : List Int) : Prop := ∃ o, ((l, o) ∈ lsts ∨ g.get? l = some o) ∧ o.cls = .type "list" ∧ ∃ its n, o.data = .seq its n ∧ IntsAre its.toList xs
theorem IntList.isList {h : Heap} {l : Addr} {xs : List Int} (x : IntList h l xs) : ∃ its, h.IsList l its ∧ IntsAre its.toList xs := by
  obtain ⟨o, ho, hc, its, n, hd, hi⟩ := x
  exact ⟨its, ⟨o, ho, hc, n, hd⟩, hi⟩
theorem IntList.keep {h h' : Heap} {l : Addr} {xs : List Int} (x : IntList h l xs) (k : ∀ o, h.get? l = some o → h'.get? l = some o) : IntList h' l xs := by
  obtain ⟨o, ho, r⟩ := x
  exact ⟨o, k _ ho, r⟩
theorem LstIn.at {g h : Heap} {L l : Addr} {m : Str → Option Value} {lsts ld : List (Addr × Obj)} {xs : List Int} (F : Fr g L h m) (N : News g L h ld) (sub : ∀ p ∈ lsts, p ∈ ld) (x : LstIn g lsts l xs) : IntList h l xs := by
  obtain ⟨o, ho, r⟩ := x
  rcases ho with ho | ho
  · exact ⟨o, (N _ (sub _ ho)).1, r⟩
  · exact ⟨o, F.keep _ _ ho, r⟩
theorem LstIn.mono {g g' : Heap} {l l' : List (Addr × Obj)} {t : Addr} {i : List Int} (x : LstIn g l t i) (k : ∀ p ∈ l, p ∈ l') (kg : ∀ a o, g.get? a = some o → g'.get? a = some o) : LstIn g' l' t i := by
  obtain ⟨o, h, r⟩ := x
  refine ⟨o, ?_, r⟩
  rcases h with h | h
  · exact .inl (k _ h)
  · exact .inr (kg _ _ h)
def ShelfAt (T : Addr → List Int → Prop) (its : Array Value) (xss : List (List Int)) : Prop := its.size = xss.length ∧ ∀ (j : Nat) (xs : List Int), xss[j]? = some xs → ∃ l : Addr, its[j]? = some (Value.ref l) ∧ T l xs
theorem ShelfAt.mono {T T' : Addr → List Int → Prop} {its : Array Value} {xss : List (List Int)} (x : ShelfAt T its xss) (k : ∀ l xs, T l xs → T' l xs) : ShelfAt T' its xss :=
  ⟨x.1, fun j xs h => by obtain ⟨l, a, b⟩ := x.2 j xs h; exact ⟨l, a, k _ _ b⟩⟩
theorem ShelfAt.push {T : Addr → List Int → Prop} {its : Array Value} {xss : List (List Int)} (x : ShelfAt T its xss) {l : Addr} {xs : List Int} (h : T l xs) : ShelfAt T (its.push (.ref l)) (xss ++ [xs]) := by
  refine ⟨by rw [Array.size_push, List.length_append, x.1]; rfl, fun j ys hj => ?_⟩
  by_cases q : j < xss.length
  · rw [List.getElem?_append_left q] at hj
    obtain ⟨l', a, b⟩ := x.2 j ys hj
    refine ⟨l', ?_, b⟩
    have : j < its.size := by rw [x.1]; exact q
    rw [Array.getElem?_push_lt this, ← a, Array.getElem?_eq_getElem this]
  · rw [List.getElem?_append_right (by lia)] at hj
    have e : j - xss.length = 0 := by
      rcases Nat.eq_zero_or_pos (j - xss.length) with e | e
      · exact e
      · rw [List.getElem?_eq_none (show [xs].length ≤ _ from e)] at hj; cases hj
    rw [e] at hj
    cases hj
    have e2 : j = its.size := by rw [x.1]; lia
    subst e2
    exact ⟨l, by simp, h⟩
theorem shelf_ref {T : Addr → List Int → Prop} {its : Array Value} {xss : List (List Int)} (x : ShelfAt T its xss) {y : Value} (hy : y ∈ its) : ∃ (j : Nat) (l : Addr) (xs : List Int), y = .ref l ∧ its[j]? = some (.ref l) ∧ xss[j]? = some xs ∧ T l xs := by
  obtain ⟨j, hj, rfl⟩ := Array.getElem_of_mem hy
  have h2 : j < xss.length := by rw [← x.1]; exact hj
  obtain ⟨l, a, b⟩ := x.2 j _ (List.getElem?_eq_getElem h2)
  rw [Array.getElem?_eq_getElem hj] at a
  have a' := Option.some.inj a
  exact ⟨j, l, _, a', by rw [← a', Array.getElem?_eq_getElem hj], List.getElem?_eq_getElem h2, b⟩
theorem ints_fun {vs : List Value} {xs ys : List Int} (a : IntsAre vs xs) (b : IntsAre vs ys) : xs = ys := a.numsOf.symm.trans b.numsOf
section
variable {A : Around} {s : Shared}
theorem eqAt_ints {l b : Addr} {xs ys : List Int} (hl : IntList s.heap l xs) (hb : IntList s.heap b ys) (hu : A.units < cLine) : EqAt A s (.ref l) (.ref b) (decide (xs = ys)) := by
  obtain ⟨its, h1, h2⟩ := hl.isList
  obtain ⟨its2, h3, h4⟩ := hb.isList
  by_cases e : l = b
  · subst e
    obtain ⟨o, ho, _, n, hd⟩ := h1
    obtain ⟨o', ho', _, n', hd'⟩ := h3
    rw [ho] at ho'; cases ho'
    rw [hd] at hd'; cases hd'
    rw [decide_eq_true (ints_fun h2 h4)]
    exact EqAt.same _
  · refine EqAt.of_refs e ?_
    by_cases hs : its.size = its2.size
    · have key : ((List.range its.size).all fun j => xs.getD j 0 == ys.getD j 0) = decide (xs = ys) := by
        have l1 := h2.length
        have l2 := h4.length
        rw [Array.length_toList] at l1 l2
        by_cases q : xs = ys
        · rw [decide_eq_true q, q]
          exact List.all_eq_true.mpr fun _ _ => beq_self_eq_true _
        · rw [decide_eq_false q]
          apply Bool.eq_false_iff.mpr
          intro h
          apply q
          apply List.ext_getElem (by lia)
          intro i h5 h6
          have := List.all_eq_true.mp h i (List.mem_range.mpr (by lia))
          simpa [List.getD, h5, h6] using this
      rw [← key]
      refine RcAt.lists h1 h3 hs hu fun j q1 q2 => ?_
      obtain ⟨z1, t1, e1, f1⟩ := IntsAre.at h2 j its[j] (by simp [q1])
      obtain ⟨z2, t2, e2, f2⟩ := IntsAre.at h4 j its2[j] (by simp [q2])
      rw [e1, e2]
      have g1 : xs.getD j 0 = z1 := by rw [List.getD_eq_getElem?_getD, f1]; rfl
      have g2 : ys.getD j 0 = z2 := by rw [List.getD_eq_getElem?_getD, f2]; rfl
      rw [g1, g2]
      exact EqAt.int_int z1 t1 z2 t2
    · have : xs ≠ ys := fun q => by
        have l1 := h2.length
        have l2 := h4.length
        rw [Array.length_toList] at l1 l2
        rw [q] at l1; lia
      rw [decide_eq_false this]
      exact RcAt.lists_lengths h1 h3 (by simpa using hs) hu
end
section
open Classical in
noncomputable def isInts (h : Heap) (ys : List Int) (y : Value) : Bool := match y with
  | .ref l => decide (IntList h l ys)
  | _ => false
open Classical in
theorem isInts_ref {h : Heap} {l : Addr} {xs ys : List Int} (hl : IntList h l xs) : isInts h ys (.ref l) = decide (xs = ys) := by
  unfold isInts
  by_cases q : xs = ys
  · rw [decide_eq_true q]; exact decide_eq_true (q ▸ hl)
  · rw [decide_eq_false q]
    refine decide_eq_false fun h2 => q ?_
    obtain ⟨o, ho, _, its, n, hd, hi⟩ := hl
    obtain ⟨o', ho', _, its', n', hd', hi'⟩ := h2
    rw [ho] at ho'; cases ho'
    rw [hd] at hd'; cases hd'
    exact ints_fun hi hi'
variable {prog : Program} {w : World} {A : Around} {E : Value → Shared → Prop} {s : Shared}
theorem shelf_any {h : Heap} {its : Array Value} {xss : List (List Int)} (x : ShelfAt (IntList h) its xss) (ys : List Int) : its.any (isInts h ys) = decide (ys ∈ xss) := by
  by_cases q : ys ∈ xss
  · rw [decide_eq_true q]
    obtain ⟨j, hj, e⟩ := List.getElem_of_mem q
    obtain ⟨l, a, b⟩ := x.2 j ys (by rw [List.getElem?_eq_getElem hj, e])
    rw [Array.any_eq_true]
    have hj2 : j < its.size := by rw [x.1]; exact hj
    refine ⟨j, hj2, ?_⟩
    rw [Array.getElem?_eq_getElem hj2] at a
    rw [Option.some.inj a, isInts_ref b]; simp
  · rw [decide_eq_false q]
    apply Bool.eq_false_iff.mpr
    intro h2
    rw [Array.any_eq_true] at h2
    obtain ⟨j, hj, e⟩ := h2
    obtain ⟨j', l, xs, e1, e2, e3, e4⟩ := shelf_ref x (Array.getElem_mem hj)
    rw [e1, isInts_ref e4, decide_eq_true_eq] at e
    exact q (e ▸ List.mem_of_getElem? e3)
theorem notin_shelf {sa b : Addr} {its : Array Value} {xss : List (List Int)} {ys : List Int} {Q : Value → Shared → Prop} (hl : s.heap.IsList sa its) (x : ShelfAt (IntList s.heap) its xss) (hb : IntList s.heap b ys) (hu : A.units + 1 < cLine)
    (h : Q (.bool (!decide (ys ∈ xss))) s) : wpAny (model prog w) A (compareOp .NotIn (.ref b) (.ref sa)) Q E s := by
  refine SeqAt.notIn_listAt (isInts s.heap ys) hl (fun y hy => ?_) (by rw [shelf_any x]; exact h)
  obtain ⟨j, l, xs, rfl, _, _, hx⟩ := shelf_ref x hy
  rw [isInts_ref hx]
  exact eqAt_ints hx hb hu
theorem index_shelf {sa b : Addr} {its : Array Value} {xss : List (List Int)} {ys : List Int} {j : Nat} {Q : Value → Shared → Prop} (hl : s.heap.IsList sa its) (x : ShelfAt (IntList s.heap) its xss) (hb : IntList s.heap b ys) (hu : A.units + 10 < cLine) (hj : xss[j]? = some ys) (hn : xss.Nodup) (hs : xss.length ≤ 1000)
    (h : Q (.int (j : Nat) s.toks) { s with toks := s.toks + 1 }) : wpAny (model prog w) A (call (.builtin "list.index") [.ref sa, .ref b]) Q E s := by
  obtain ⟨⟨cls, dd, data, sl⟩, ho, hc, n, hd⟩ := id hl
  simp only at hc hd
  subst hc hd
  have hjl : j < xss.length := by
    by_cases q : j < xss.length
    · exact q
    · rw [List.getElem?_eq_none (by lia)] at hj; cases hj
  have hat : ∀ m (hm : m < its.size), isInts s.heap ys its[m] = decide (xss.getD m [] = ys) := fun m hm => by
    have h2 : m < xss.length := by rw [← x.1]; exact hm
    obtain ⟨l, a, b⟩ := x.2 m _ (List.getElem?_eq_getElem h2)
    rw [Array.getElem?_eq_getElem hm] at a
    rw [Option.some.inj a, isInts_ref b]
    simp [List.getD, h2]
  have hjs : j < its.size := by rw [x.1]; exact hjl
  refine call_meets PySem.F.slot_list_index ⟨_, ho, rfl⟩ PySem.F.entry_list_index (PySem.F.args_list_index_2 _ _)
    (SeqAt.list_indexAt sa its n dd sl (.ref b) (isInts s.heap ys) j hjs (by lia) ?_ ?_) ⟨ho, fun y hy => ?_, h⟩
  · rw [hat j hjs, List.getD_eq_getElem?_getD, hj]; simp
  · intro m hm hlt
    rw [hat m hm, decide_eq_false_iff_not]
    intro e
    have h2 : m < xss.length := by lia
    rw [List.getElem?_eq_getElem hjl] at hj
    have e1 : xss[m] = xss[j] := by
      rw [Option.some.inj hj, ← e]; simp [List.getD, h2]
    exact List.pairwise_iff_getElem.mp hn m j h2 hjl hlt e1
  · obtain ⟨j', l, xs, rfl, _, _, hx⟩ := shelf_ref x hy
    rw [isInts_ref hx]
    exact eqAt_ints hx hb (show A.units + 1 < cLine by lia)
end
/-- a net, seen by kinds: C is what a place looks like -/
structure ViewNet (n : Nat) (nb : Nat → List Nat) (kk : Nat → Int) (C : Nat → Int → Rows) (dep : Nat → Int → Nat) : Prop where
  n8 : n ≤ 8
  nbr : ∀ v, v < n → ∀ w ∈ nb v, w < n
  nbl : ∀ v, v < n → (nb v).length ≤ 8
  depLt : ∀ v, v < n → ∀ u : Int, ∀ w ∈ nb v, (w : Int) ≠ u → dep w v < dep v u
  canEq : ∀ v v', v < n → v' < n → ∀ u u' : Int, -1 ≤ u → u < n → -1 ≤ u' → u' < n → (C v u = C v' u' ↔ kk v = kk v' ∧ (kidsR nb C v u (nb v).length).Perm (kidsR nb C v' u' (nb v').length))
def castL (ids : List Nat) : List Int := ids.map fun (i : Nat) => (i : Int)
theorem castL_nat (a : List Nat) : (castL a).map Int.toNat = a := by
  unfold castL
  rw [List.map_map]
  have : (Int.toNat ∘ fun (i : Nat) => (i : Int)) = id := by funext i; simp
  rw [this, List.map_id]
def EntryOk (n : Nat) (nb : Nat → List Nat) (kk : Nat → Int) (C : Nat → Int → Rows) (cs : List Rows) (v : Nat) (u : Int) (xs : List Int) : Prop :=
  v < n ∧ -1 ≤ u ∧ u < n ∧ ∃ ids : List Nat, xs = kk v :: castL ids ∧ (castL ids).Pairwise (· ≤ ·) ∧ (ids.map fun i => cs[i]?).Perm ((kidsR nb C v u (nb v).length).map some)
def ShelfOk (n : Nat) (nb : Nat → List Nat) (kk : Nat → Int) (C : Nat → Int → Rows) (cs : List Rows) (xss : List (List Int)) : Prop :=
  cs.length = xss.length ∧ cs.Nodup ∧ ∀ (j : Nat) (c : Rows) (xs : List Int), cs[j]? = some c → xss[j]? = some xs → ∃ v u, c = C v u ∧ EntryOk n nb kk C cs v u xs
theorem castL_inj {a b : List Nat} (h : castL a = castL b) : a = b := by
  have := congrArg (List.map Int.toNat) h
  rwa [castL_nat, castL_nat] at this
theorem perm_castL {a b : List Nat} (h : (castL a).Perm (castL b)) : a.Perm b := by
  have := h.map Int.toNat
  rwa [castL_nat, castL_nat] at this
theorem perm_some {α : Type} {a b : List α} (h : (a.map some).Perm (b.map some)) : a.Perm b := by
  have h2 := h.filterMap id
  simpa [List.filterMap_map, Function.comp_def] using h2
theorem ids_perm {cs : List Rows} (hn : cs.Nodup) {a b : List Nat} {k : List Rows} (ha : (a.map fun i => cs[i]?).Perm (k.map some)) (hb : (b.map fun i => cs[i]?).Perm (k.map some)) : a.Perm b := by
  have key : ∀ {a : List Nat}, (a.map fun i => cs[i]?).Perm (k.map some) → (a.map fun i => cs[i]?).map (fun o => match o with | some c => cs.idxOf c | none => 0) = a := by
    intro a ha
    rw [List.map_map]
    have : ∀ i ∈ a, ((fun o : Option Rows => match o with | some c => cs.idxOf c | none => 0) ∘ fun i => cs[i]?) i = i := fun i hi => by
      have hm : cs[i]? ∈ k.map some := ha.mem_iff.mp (List.mem_map_of_mem hi)
      obtain ⟨c, hc, e⟩ := List.mem_map.mp hm
      have hlt : i < cs.length := by
        by_cases q : i < cs.length
        · exact q
        · rw [List.getElem?_eq_none (by lia)] at e; cases e
      show (match cs[i]? with | some c => cs.idxOf c | none => 0) = i
      rw [List.getElem?_eq_getElem hlt]
      exact hn.idxOf_getElem i hlt
    rw [List.map_congr_left this]; simp
  have h2 := (ha.trans hb.symm).map (fun o : Option Rows => match o with | some c => cs.idxOf c | none => 0)
  rw [key ha, key hb] at h2
  exact h2
theorem sorted_eq {a b : List Int} (ha : a.Pairwise (· ≤ ·)) (hb : b.Pairwise (· ≤ ·)) (h : a.Perm b) : a = b := h.eq_of_pairwise (fun x y _ _ p q => Int.le_antisymm p q) ha hb
/-- the entry of a view decides its place -/
theorem entry_iff {n : Nat} {nb : Nat → List Nat} {kk : Nat → Int} {C : Nat → Int → Rows} {dep : Nat → Int → Nat} (V : ViewNet n nb kk C dep) {cs : List Rows} (hn : cs.Nodup) {v v' : Nat} {u u' : Int} {xs xs' : List Int}
    (h : EntryOk n nb kk C cs v u xs) (h' : EntryOk n nb kk C cs v' u' xs') : xs = xs' ↔ C v u = C v' u' := by
  obtain ⟨h1, h2, h3, ids, rfl, h4, h5⟩ := h
  obtain ⟨k1, k2, k3, ids', rfl, k4, k5⟩ := h'
  rw [V.canEq v v' h1 k1 u u' h2 h3 k2 k3]
  constructor
  · intro e
    have e1 := (List.cons.inj e).1
    have e2 := castL_inj (List.cons.inj e).2
    subst e2
    exact ⟨e1, perm_some (h5.symm.trans k5)⟩
  · rintro ⟨e1, e2⟩
    rw [e1]
    have p := ids_perm hn h5 (k5.trans (e2.symm.map some))
    rw [sorted_eq h4 k4 (show (castL ids).Perm (castL ids') from p.map fun (i : Nat) => (i : Int))]
theorem ShelfOk.nodup {n : Nat} {nb : Nat → List Nat} {kk : Nat → Int} {C : Nat → Int → Rows} {dep : Nat → Int → Nat} (V : ViewNet n nb kk C dep) {cs : List Rows} {xss : List (List Int)} (h : ShelfOk n nb kk C cs xss) : xss.Nodup := by
  obtain ⟨hl, hn, hj⟩ := h
  apply List.pairwise_iff_getElem.mpr
  intro i j hi hj' hlt e
  obtain ⟨v, u, e1, o1⟩ := hj i cs[i] xss[i] (List.getElem?_eq_getElem (by lia)) (List.getElem?_eq_getElem hi)
  obtain ⟨v', u', e2, o2⟩ := hj j cs[j] xss[j] (List.getElem?_eq_getElem (by lia)) (List.getElem?_eq_getElem hj')
  have := (entry_iff V hn o1 o2).mp e
  rw [← e1, ← e2] at this
  exact List.pairwise_iff_getElem.mp hn i j (by lia) (by lia) hlt this
theorem ShelfOk.at {n : Nat} {nb : Nat → List Nat} {kk : Nat → Int} {C : Nat → Int → Rows} {dep : Nat → Int → Nat} (V : ViewNet n nb kk C dep) {cs : List Rows} {xss : List (List Int)} (h : ShelfOk n nb kk C cs xss) {v : Nat} {u : Int} {xs : List Int} (o : EntryOk n nb kk C cs v u xs) {j : Nat} (hx : xss[j]? = some xs) : cs[j]? = some (C v u) := by
  obtain ⟨hl, hn, hj⟩ := h
  have hlt : j < cs.length := by
    by_cases q : j < cs.length
    · exact q
    · rw [List.getElem?_eq_none (by lia)] at hx; cases hx
  obtain ⟨v', u', e1, o1⟩ := hj j cs[j] xs (List.getElem?_eq_getElem hlt) hx
  rw [List.getElem?_eq_getElem hlt, e1, (entry_iff V hn o1 o).mp rfl]
theorem ShelfOk.not_mem {n : Nat} {nb : Nat → List Nat} {kk : Nat → Int} {C : Nat → Int → Rows} {dep : Nat → Int → Nat} (V : ViewNet n nb kk C dep) {cs : List Rows} {xss : List (List Int)} (h : ShelfOk n nb kk C cs xss) {v : Nat} {u : Int} {xs : List Int} (o : EntryOk n nb kk C cs v u xs) (hx : xs ∉ xss) : C v u ∉ cs := by
  obtain ⟨hl, hn, hj⟩ := h
  intro q
  obtain ⟨j, hlt, e⟩ := List.getElem_of_mem q
  have hlt2 : j < xss.length := by lia
  obtain ⟨v', u', e1, o1⟩ := hj j cs[j] xss[j] (List.getElem?_eq_getElem hlt) (List.getElem?_eq_getElem hlt2)
  have := (entry_iff V hn o o1).mpr (by rw [← e1, e])
  exact hx (this ▸ List.getElem_mem hlt2)
theorem EntryOk.ext {n : Nat} {nb : Nat → List Nat} {kk : Nat → Int} {C : Nat → Int → Rows} {cs : List Rows} {v : Nat} {u : Int} {xs : List Int} (o : EntryOk n nb kk C cs v u xs) (ex : List Rows) : EntryOk n nb kk C (cs ++ ex) v u xs := by
  obtain ⟨h1, h2, h3, ids, h6, h4, h5⟩ := o
  refine ⟨h1, h2, h3, ids, h6, h4, ?_⟩
  have : (ids.map fun i => (cs ++ ex)[i]?) = ids.map fun i => cs[i]? := List.map_congr_left fun i hi => by
    have hm : cs[i]? ∈ (kidsR nb C v u (nb v).length).map some := h5.mem_iff.mp (List.mem_map_of_mem (f := fun i => cs[i]?) hi)
    obtain ⟨c, _, e⟩ := List.mem_map.mp hm
    have hlt : i < cs.length := by
      by_cases q : i < cs.length
      · exact q
      · rw [List.getElem?_eq_none (by lia)] at e; cases e
    rw [List.getElem?_append_left hlt]
  rw [this]; exact h5
theorem ShelfOk.add {n : Nat} {nb : Nat → List Nat} {kk : Nat → Int} {C : Nat → Int → Rows} {cs : List Rows} {xss : List (List Int)} (h : ShelfOk n nb kk C cs xss) {v : Nat} {u : Int} {xs : List Int} (o : EntryOk n nb kk C cs v u xs) (hx : C v u ∉ cs) : ShelfOk n nb kk C (cs ++ [C v u]) (xss ++ [xs]) := by
  obtain ⟨hl, hn, hj⟩ := h
  refine ⟨by rw [List.length_append, List.length_append, hl]; rfl, ?_, fun j c ys hc hy => ?_⟩
  · rw [List.nodup_append]
    refine ⟨hn, by simp, fun a ha b hb => ?_⟩
    rw [List.mem_singleton] at hb
    intro e
    exact hx (by rw [← hb, ← e]; exact ha)
  · by_cases q : j < cs.length
    · rw [List.getElem?_append_left q] at hc
      rw [List.getElem?_append_left (by lia)] at hy
      obtain ⟨v', u', e, o'⟩ := hj j c ys hc hy
      exact ⟨v', u', e, o'.ext _⟩
    · rw [List.getElem?_append_right (by lia)] at hc hy
      have e0 : j - cs.length = 0 := by
        rcases Nat.eq_zero_or_pos (j - cs.length) with e | e
        · exact e
        · rw [List.getElem?_eq_none (show [C v u].length ≤ _ from e)] at hc; cases hc
      rw [e0] at hc
      rw [show j - xss.length = 0 by lia] at hy
      cases hc; cases hy
      exact ⟨v, u, rfl, o.ext _⟩
theorem nodup_sub {α : Type} [DecidableEq α] : ∀ (l l' : List α), l.Nodup → (∀ x ∈ l, x ∈ l') → l.length ≤ l'.length
  | [], _, _, _ => Nat.zero_le _
  | a :: r, l', hn, h => by
    rw [List.nodup_cons] at hn
    have h1 := nodup_sub r (l'.erase a) hn.2 fun x hx => (List.mem_erase_of_ne (fun e : x = a => hn.1 (e ▸ hx))).mpr (h x (.tail _ hx))
    have h2 := h a (.head _)
    rw [List.length_erase_of_mem h2] at h1
    have := List.length_pos_of_mem h2
    rw [List.length_cons]; lia
theorem ShelfOk.len {n : Nat} {nb : Nat → List Nat} {kk : Nat → Int} {C : Nat → Int → Rows} {cs : List Rows} {xss : List (List Int)} (h8 : n ≤ 8) (h : ShelfOk n nb kk C cs xss) : xss.length ≤ 200 := by
  obtain ⟨hl, hn, hj⟩ := h
  have := nodup_sub cs ((List.range 200).map fun i => C (i / 10) ((i % 10 : Nat) - 1 : Int)) hn fun c hc => by
    obtain ⟨j, hlt, e⟩ := List.getElem_of_mem hc
    obtain ⟨v, u, e1, h1, h2, h3, _⟩ := hj j cs[j] xss[j] (List.getElem?_eq_getElem hlt) (List.getElem?_eq_getElem (by lia))
    refine List.mem_map.mpr ⟨10 * v + (u + 1).toNat, List.mem_range.mpr (by lia), ?_⟩
    rw [← e, e1]
    have a1 : (10 * v + (u + 1).toNat) / 10 = v := by lia
    have a2 : (((10 * v + (u + 1).toNat) % 10 : Nat) : Int) - 1 = u := by lia
    rw [a1, a2]
  rw [List.length_map, List.length_range] at this
  lia
theorem map_ext {c e : List Rows} {ids : List Nat} {k : List Rows} (h : (ids.map fun i => c[i]?) = k.map some) : (ids.map fun i => (c ++ e)[i]?) = k.map some := by
  rw [← h]
  refine List.map_congr_left fun i hi => ?_
  have hm : c[i]? ∈ k.map some := h ▸ List.mem_map_of_mem (f := fun i => c[i]?) hi
  obtain ⟨x, _, e⟩ := List.mem_map.mp hm
  have hlt : i < c.length := by
    by_cases q : i < c.length
    · exact q
    · rw [List.getElem?_eq_none (by lia)] at e; cases e
  rw [List.getElem?_append_left hlt]
theorem shelf_news {g h h' : Heap} {L : Addr} {m : Str → Option Value} {its its' : Array Value} {xss' : List (List Int)} {lsts : List (Addr × Obj)} (F : Fr g L h' m) (hL : ∃ o, h.get? L = some o) (hgh : ∀ a o, g.get? a = some o → h.get? a = some o)
    (hold : ∀ y ∈ its, ∃ (l : Addr) (xs : List Int), y = Value.ref l ∧ LstIn g lsts l xs) (keep : ∀ p ∈ lsts, h'.get? p.1 = some p.2) (hsh : ShelfAt (IntList h') its' xss') (hnew : ∀ y ∈ its', y ∈ its ∨ ∃ l : Addr, y = Value.ref l ∧ h.get? l = none) :
    ∃ ex : List (Addr × Obj), News g L h' ex ∧ ShelfAt (LstIn g (lsts ++ ex)) its' xss' ∧ ∀ p ∈ ex, h.get? p.1 = none := by
  let f : Value → Option (Addr × Obj) := fun y => match y with
    | .ref l => if (h.get? l).isNone then (h'.get? l).map fun o => (l, o) else none
    | _ => none
  have hf : ∀ p ∈ its'.toList.filterMap f, h.get? p.1 = none ∧ h'.get? p.1 = some p.2 := fun p hp => by
    obtain ⟨y, _, e⟩ := List.mem_filterMap.mp hp
    cases y with
    | ref l =>
      have e' : (if (h.get? l).isNone then (h'.get? l).map fun o => (l, o) else none) = some p := e
      split at e'
      · rename_i hn
        obtain ⟨o, ho, rfl⟩ := Option.map_eq_some_iff.mp e'
        exact ⟨by simpa using hn, ho⟩
      · cases e'
    | _ => cases e
  refine ⟨its'.toList.filterMap f, fun p hp => ?_, ⟨hsh.1, fun j xs hj => ?_⟩, fun p hp => (hf p hp).1⟩
  · refine ⟨(hf p hp).2, fun q => ?_, ?_⟩
    · obtain ⟨o, ho⟩ := hL
      rw [← q, (hf p hp).1] at ho; cases ho
    · cases q : g.get? p.1 with
      | none => rfl
      | some o => have := hgh _ _ q; rw [(hf p hp).1] at this; cases this
  · obtain ⟨l, a, o, ho, hc, r⟩ := hsh.2 j xs hj
    refine ⟨l, a, o, ?_, hc, r⟩
    have hm : Value.ref l ∈ its' := Array.mem_of_getElem? a
    rcases hnew _ hm with q | ⟨l', e, q⟩
    · obtain ⟨l', xs', e, o', ho', _⟩ := hold _ q
      obtain rfl := Value.ref.inj e
      rcases ho' with ho' | ho'
      · have := keep _ ho'
        rw [ho] at this; cases this
        exact .inl (List.mem_append_left _ ho')
      · have := F.keep _ _ ho'
        rw [ho] at this; cases this
        exact .inr ho'
    · obtain rfl := Value.ref.inj e
      refine .inl (List.mem_append_right _ (List.mem_filterMap.mpr ⟨.ref l, by simpa using hm, ?_⟩))
      show (if (h.get? l).isNone then (h'.get? l).map fun o => (l, o) else none) = some (l, o)
      rw [q, ho]; rfl
theorem offs_new {I C D : Addr} {a b : List (Addr × Obj)} (ha : Off3 I C D a) (hb : ∀ p ∈ b, p.1 ≠ I ∧ p.1 ≠ C ∧ p.1 ≠ D) : Off3 I C D (a ++ b) := Off3.of fun p hp => by
  rcases List.mem_append.mp hp with hp | hp
  · exact ha.mem p hp
  · exact hb p hp
theorem news_swap {g h h' : Heap} {L sa : Addr} {pre post e : List (Addr × Obj)} {o o' : Obj} (N : News g L h (pre ++ (sa, o) :: post)) (hk : ∀ a o, a ≠ sa → h.get? a = some o → h'.get? a = some o) (hs : h'.get? sa = some o') (h1 : ∀ p ∈ pre, p.1 ≠ sa) (h2 : ∀ p ∈ post, p.1 ≠ sa) (Ne : News g L h' e) :
    News g L h' (pre ++ (sa, o') :: (post ++ e)) := fun p hp => by
  rcases List.mem_append.mp hp with hp | hp
  · have z := N p (List.mem_append_left _ hp)
    exact ⟨hk _ _ (h1 p hp) z.1, z.2⟩
  · rcases List.mem_cons.mp hp with rfl | hp
    · exact ⟨hs, (N (sa, o) (List.mem_append_right _ (.head _))).2⟩
    · rcases List.mem_append.mp hp with hp | hp
      · have z := N p (List.mem_append_right _ (.tail _ hp))
        exact ⟨hk _ _ (h2 p hp) z.1, z.2⟩
      · exact Ne p hp
theorem off_swap {I C D sa : Addr} {pre post e : List (Addr × Obj)} {o o' : Obj} (h : Off3 I C D (pre ++ (sa, o) :: post)) (he : ∀ p ∈ e, p.1 ≠ I ∧ p.1 ≠ C ∧ p.1 ≠ D) : Off3 I C D (pre ++ (sa, o') :: (post ++ e)) := Off3.of fun p hp => by
  rcases List.mem_append.mp hp with hp | hp
  · exact h.mem p (List.mem_append_left _ hp)
  · rcases List.mem_cons.mp hp with rfl | hp
    · exact h.mem (sa, o) (List.mem_append_right _ (.head _))
    · rcases List.mem_append.mp hp with hp | hp
      · exact h.mem p (List.mem_append_right _ (.tail _ hp))
      · exact he p hp
theorem five_ne {p L : Nat} (h1 : p ≠ L + 1) (h2 : p ≠ L + 1 + 1) (h3 : p ≠ L + 1 + 1 + 1) (h4 : p ≠ L + 1 + 1 + 1 + 1) (h5 : p ≠ L + 1 + 1 + 1 + 1 + 1) : ¬ (L < p ∧ p ≤ L + 5) := by lia
theorem shelf_ne {n : Nat} {nb : Nat → List Nat} {kk : Nat → Int} {C : Nat → Int → Rows} {h : Heap} {sa : Addr} {its : Array Value} {k : Nat} {cs : List Rows} {xss : List (List Int)} (hs : h.get? sa = some (W.listOf its k)) (x : ShelfAt (IntList h) its xss) (hok : ShelfOk n nb kk C cs xss) {j : Nat} {xs : List Int} {l : Addr}
    (hj : xss[j]? = some xs) (hl : its[j]? = some (Value.ref l)) (hi : IntList h l xs) : l ≠ sa := by
  rintro rfl
  obtain ⟨o, ho, hc, its', n', hd, hi'⟩ := hi
  rw [hs] at ho; cases ho
  cases hd
  have hlt : j < xss.length := by
    by_cases q : j < xss.length
    · exact q
    · rw [List.getElem?_eq_none (by lia)] at hj; cases hj
  have hlc : j < cs.length := by have := hok.1; lia
  obtain ⟨v, u, _, _, _, _, ids, rfl, _, _⟩ := hok.2.2 j cs[j] xs (List.getElem?_eq_getElem hlc) hj
  obtain ⟨l2, a, b⟩ := x.2 0 (xss[0]'(by lia)) (List.getElem?_eq_getElem (by lia))
  obtain ⟨t, vs', e, _⟩ := IntsAre.cons_inv hi'
  have : its.toList[0]? = some (.int (kk v) t) := by rw [e]; rfl
  rw [Array.getElem?_toList, a] at this
  cases this
theorem perm_cast {ns : List Int} {ids : List Nat} (h : ns.Perm (castL ids)) : ∃ ids3 : List Nat, ns = castL ids3 ∧ ids3.Perm ids := by
  have e : castL (ns.map Int.toNat) = ns := by
    unfold castL
    rw [List.map_map]
    have : ∀ x ∈ ns, ((fun (i : Nat) => (i : Int)) ∘ Int.toNat) x = x := fun x hx => by
      obtain ⟨i, _, rfl⟩ := List.mem_map.mp (h.mem_iff.mp hx)
      simp
    rw [List.map_congr_left this]; simp
  refine ⟨ns.map Int.toNat, e.symm, perm_castL ?_⟩
  rw [e]; exact h
end Mine
end

section
open PySem PySem.W PySem.Spec PySem.Calls PyProof.Rows PyProof.Rows.LCg PyProof.Rows.LCt
set_option Elab.async false
set_option maxRecDepth 100000
namespace Mine
def KindsAt (h : Heap) (ka : Addr) (n : Nat) (kk : Nat → Int) : Prop := ∃ kis : Array Value, h.IsList ka kis ∧ ∀ v, v < n → ∃ t, kis[v]? = some (.int (kk v) t)
theorem KindsAt.keep {g h : Heap} {ka : Addr} {n : Nat} {kk : Nat → Int} (k : ∀ a o, g.get? a = some o → h.get? a = some o) (x : KindsAt g ka n kk) : KindsAt h ka n kk := by
  obtain ⟨nis, h1, h2⟩ := x
  exact ⟨nis, isList_keep k h1, h2⟩
inductive ViewPost (n : Nat) (nb : Nat → List Nat) (kk : Nat → Int) (C : Nat → Int → Rows) (s : Shared) (sa : Addr) (its : Array Value) (cs : List Rows) (v : Nat) (u : Int) (val : Value) (s' : Shared) : Prop
  | mk : ∀ h' tk' its' k' xss' ex (i : Nat) (t : Tok), s' = { s with heap := h', toks := tk' } → (∀ a o, a ≠ sa → s.heap.get? a = some o → h'.get? a = some o) → h'.get? sa = some (W.listOf its' k') → ShelfAt (IntList h') its' xss' → ShelfOk n nb kk C (cs ++ ex) xss' → (∀ y ∈ its', y ∈ its ∨ ∃ l : Addr, y = Value.ref l ∧ s.heap.get? l = none) → val = .int (i : Nat) t → (cs ++ ex)[i]? = some (C v u) → ViewPost n nb kk C s sa its cs v u val s'
theorem cells5 {cm : Str → Option Value} {n1 n2 n3 n4 n5 : Str} {c1 c2 c3 c4 c5 : Addr} {cells : List (Addr × Obj)} (x : CellsAre cm [(n1, c1), (n2, c2), (n3, c3), (n4, c4), (n5, c5)] cells) :
    ∃ o1 o2 o3 o4 o5 : Obj, cells = [(c1, o1), (c2, o2), (c3, o3), (c4, o4), (c5, o5)] ∧ o1.data = .cell (cm n1) ∧ o2.data = .cell (cm n2) ∧ o3.data = .cell (cm n3) ∧ o4.data = .cell (cm n4) ∧ o5.data = .cell (cm n5) := by
  cases x with | cons d1 x => cases x with | cons d2 x => cases x with | cons d3 x => cases x with | cons d4 x => cases x with | cons d5 x => cases x; exact ⟨_, _, _, _, _, rfl, d1, d2, d3, d4, d5⟩
section
variable {w : World} {mean : ExcName → Option Value} {mg mb : Str → Option Value}
inductive VJ (D1 : Addr) (dO : Obj) (L : Addr) (o1 o2 o3 o4 o5 : Obj) (sa : Addr) (g : Heap) (s : Shared) (its : Array Value) (cs : List Rows) (n : Nat) (nb : Nat → List Nat) (kk : Nat → Int) (C : Nat → Int → Rows) (v : Nat) (u : Int) (i : Nat) (ys : List Value) (nw : List (Addr × Obj)) : Prop
  | mk : ∀ its' k' xss' ex lsts (ids : List Nat), nw = (D1, dO) :: (L + 1 + 1 + 1 + 1 + 1, o1) :: (L + 1 + 1 + 1 + 1, o2) :: (L + 1 + 1 + 1, o3) :: (L + 1 + 1, o4) :: (L + 1, o5) :: (sa, W.listOf its' k') :: lsts →
    ShelfAt (LstIn g lsts) its' xss' → ShelfOk n nb kk C (cs ++ ex) xss' → (∀ y ∈ its', y ∈ its ∨ ∃ l : Addr, y = Value.ref l ∧ s.heap.get? l = none) → (∀ p ∈ lsts, p.1 ≠ sa ∧ p.1 ≠ D1 ∧ ¬ (L < p.1 ∧ p.1 ≤ L + 5)) →
    IntsAre ys (castL ids) → (ids.map fun i => (cs ++ ex)[i]?) = (kidsR nb C v u i).map some → VJ D1 dO L o1 o2 o3 o4 o5 sa g s its cs n nb kk C v u i ys nw
theorem kw_W2_1 : True := by
  k_with_none
  k_with "subscriptTail Name Name ref int" => (k_here; refine Hold.out ?_)
  k_with "getMethod ref" => (k_here; k_dflt (refine kl_method (by k_asm) (by k_mem) PySem.F.slot_list_index PySem.F.type_list_index ?_))
  k_with "call ref" => (k_here; refine Hold.out ?_)
  k_with "call builtin:sorted" => (k_here; refine Hold.out ?_)
  k_with "binaryOp Add ref ref" => (k_here; refine Hold.out ?_)
  k_with "compareOp NotIn ref ref" => (k_here; refine Hold.out ?_)
  k_with "call builtin:list.index" => (k_here; refine Hold.out ?_)
  k_with "call builtin:list.append" => (k_here; refine Hold.out ?_)
  k_with "eval ListComp" => (k_here; k_dflt (refine LCt.ListComp_T (F₀ := by k_asm) (by with_unfolding_all rfl) (by decide) (by rfl) (by decide) (by rfl) ?_))
  trivial
set_option maxHeartbeats 4000000 in
theorem view_spec {n : Nat} {nb : Nat → List Nat} {kk : Nat → Int} {C : Nat → Int → Rows} {dep : Nat → Int → Nat} (V : ViewNet n nb kk C dep) {ta ka sa : Addr} : ∀ (d : Nat) {A : Around} {s : Shared} {G : Heap}
    (X : (hd.heap_39 w.params).In G) (T : Top PV LO mean mg mb G) (st : G.StaysIn s.heap) (hd : A.depth + d + 3 < recursionLimit) (hun : A.units + 3 * d + 20 < cLine) (hA : A.handled = none) (ti : TiesAt G ta n nb) (ki : KindsAt G ka n kk) {its : Array Value} {k : Nat} {cs : List Rows} {xss : List (List Int)}
    (hs : s.heap.get? sa = some (W.listOf its k)) (hsG : G.get? sa = none) (hsh : ShelfAt (IntList s.heap) its xss) (hok : ShelfOk n nb kk C cs xss) {v : Nat} {u : Int} (hv : v < n) (hu : -1 ≤ u) (hu2 : u < n) (hdep : dep v u < d) (tv tu : Tok),
    wpAny (MD w) A (call (.ref 91) [.int v tv, .int u tu, .ref ta, .ref ka, .ref sa]) (ViewPost n nb kk C s sa its cs v u) NE s := by
  intro d
  induction d with
  | zero => intro _ _ _ _ _ _ _ _ _ _ _ _ _ _ _ _ _ _ _ _ _ _ _ _ h; exact absurd h (Nat.not_lt_zero _)
  | succ d ih =>
  intro A s G X T st hd hun hA ti ki its k cs xss hs hsG hsh hok v u hv hu hu2 hdep tv tu
  k_dflt (refine' enterC (binds := [(Str.ofString "v", .int v tv), (Str.ofString "u", .int u tu), (Str.ofString "ties", .ref ta), (Str.ofString "kinds", .ref ka), (Str.ofString "shelf", .ref sa)]) [(sa, W.listOf its k)] ?X ?T ?st ?hm ?ho ?hcd ?hroom ?hbind ?hloc ?hcell ?h ?hco ?hgen ?hk; (case X => assumption); (case T => assumption); (case st => assumption); (case hm => (intro p hp; rw [List.mem_singleton.mp hp]; exact ⟨hs, hsG⟩)); (case ho => k_is); (case hcd => k_is); (case hroom => lia); (case hbind => exact rfl); (case hloc => exact rfl); (case hcell => decide); (case hco => exact rfl); (case hgen => exact rfl); (case hk => exact rfl))
  intro g L h₁ tk cells hg hg' hL F N Y hlg X' T'
  have hGg : ∀ a o, G.get? a = some o → g.get? a = some o := fun a o e => hg a o (st a o e) (fun q => by
    have q' : a = sa := by simpa using q
    rw [q', hsG] at e; cases e)
  have ti' := ti.keep hGg
  have ki' := ki.keep hGg
  clear ti ki
  obtain ⟨o1, o2, o3, o4, o5, rfl, d1, d2, d3, d4, d5⟩ := cells5 Y
  have d1' : o1.data = .cell (some (.ref sa)) := d1
  have d2' : o2.data = .cell (some (.ref ka)) := d2
  have d3' : o3.data = .cell (some (.ref ta)) := d3
  have d4' : o4.data = .cell (some (.int u tu)) := d4
  have d5' : o5.data = .cell (some (.int v tv)) := d5
  clear d1 d2 d3 d4 d5 Y
  have N0 : News g L h₁ [(L + 1 + 1 + 1 + 1 + 1, o1), (L + 1 + 1 + 1 + 1, o2), (L + 1 + 1 + 1, o3), (L + 1 + 1, o4), (L + 1, o5), (sa, W.listOf its k)] := N
  have F0 : Fr g L h₁ (fun _ => none) := F
  clear N F
  have hsaL : sa < L := hlg _ (.head _)
  clear hlg
  show wpAny _ _ _ _ _ _
  k_fold
  k_steps
  refine Hold.mk ?_
  (rename Fr _ _ _ _ => F1)
  (rename News _ _ _ _ => N1)
  obtain ⟨kis, hk1, hk2⟩ := id ki'
  obtain ⟨tkk, hk3⟩ := hk2 v hv
  have hv8 : (v : Int) < 2 ^ 63 := by have := V.n8; lia
  k_dflt (refine' item_lst (its := kis) ?zz1 ?zz2 hv8 hk3 ?_; (case zz1 => exact isList_keep F1.keep hk1); (case zz2 => lia))
  k_steps
  (rename Addr => D1)
  refine Hold.mk ?_
  (rename _ < _ ∧ _ => hl1)
  have hDL : (L : Nat) + 5 < D1 := hl1.1
  have hDsa : (sa : Nat) < D1 := hl1.2.2.2.2.2
  (rename Fr _ _ _ _ => F2)
  (rename News _ _ _ _ => N2)
  obtain ⟨tis, ht1, ht2⟩ := id ti'
  obtain ⟨l, its0, hl1, hl2, hl3⟩ := ht2 v hv
  k_dflt (refine' item_lst (its := tis) ?yy1 ?yy2 hv8 hl1 ?_; (case yy1 => exact isList_keep F2.keep ht1); (case yy2 => lia))
  have hi0 : its0.size = (nb v).length := by
    have := hl3.length
    simpa using this
  refine CompSrcT.base hA F2 N2 hl2 (by rw [hi0, sizeLine_eq]; have := V.nbl v hv; lia) ?_
  intro h3
  refine comp_invT (VJ D1 (W.listOf #[Value.int (kk v) tkk] 0) L o1 o2 o3 o4 o5 sa g s its cs n nb kk C v u) ?_ ?_ _ _ _ _ (Nat.zero_add _) ?_
  · intro i ys nw x I oI oC2 oC D m2 h6 tk6 hi zzJ hx hoC hm2x F6 N6 hoff hne3
    refine hidden fun zzG zzH => ?_
    obtain ⟨its', k', xss', ex, lsts, ids, rfl, hsh', hok', hfr, hls, hys, hids⟩ := zzJ
    obtain ⟨wz, tw, rfl, hwz⟩ := IntsAre.at hl3 i x (by simpa using hx)
    rw [List.getElem?_map] at hwz
    obtain ⟨w', hw', rfl⟩ := Option.map_eq_some_iff.mp hwz
    by_cases hwu : (w' : Int) = u
    · have hwu' : ((w' : Int) != u) = false := by simpa using hwu
      refine zzH ?_
      clear zzH zzG
      show wpAny _ _ _ _ _ _
      k_fold
      k_steps
      (rename Fr _ _ _ _ => F9)
      (rename News _ _ _ _ => N9)
      exact ⟨_, _, _, rfl, F9, N9, hoff, .inl hl2, its', k', xss', ex, lsts, ids, rfl, hsh', hok', hfr, hls, hys, by rw [kidsR_skip hw' hwu]; exact hids⟩
    · have hwu' : ((w' : Int) != u) = true := by simpa using hwu
      have hwm : w' ∈ nb v := List.mem_of_getElem? hw'
      refine zzH ?_
      clear zzH zzG
      show wpAny _ _ _ _ _ _
      k_fold
      k_steps
      refine Hold.mk ?_
      (rename Fr _ _ _ _ => F9)
      (rename News _ _ _ _ => N9)
      have hsaN := N9 (sa, W.listOf its' k') (by k_mem)
      have hcur := hsh'.mono fun l xs x => LstIn.at F9 N9 (by intro p hp; exact .tail _ (.tail _ (.tail _ (.tail _ (.tail _ (.tail _ (.tail _ (.tail _ (.tail _ (.tail _ hp)))))))))) x
      refine' useSpec ?va ?vb
      case va =>
        refine' ih (G := g) (its := its') (cs := cs ++ ex) (xss := xss') X' T' ?vs ?vd ?vu ?vA ti' ki' ?hb ?hbG ?hsh hok' ?hv ?hu ?hun ?hdep _ _
        case vs => exact F9.keep
        case vd => show A.depth + 1 + d + 3 < _; lia
        case vu => show A.units + 3 + 3 * d + 20 < _; lia
        case vA => exact hA
        case hb => exact hsaN.1
        case hbG => exact hsaN.2.2
        case hsh => exact hcur
        case hv => exact V.nbr v hv w' hwm
        case hu => lia
        case hun => lia
        case hdep => exact Nat.lt_of_lt_of_le (V.depLt v hv u w' hwm hwu) (Nat.le_of_lt_succ hdep)
      intro val s9 zzJ
      refine hidden fun zzG zzH => ?_
      obtain ⟨h9, tk9, its9, k9, xss9, ex9, i9, t9, rfl, hk9, hs9, hsh9, hok9, hfr9, rfl, hci⟩ := zzJ
      have F10 := fr_ext F9 (b := sa) hk9 hsaN.2.1 hsaN.2.2
      have hLs := F9.ns
      obtain ⟨oL, _, _, hLo, _⟩ := hLs
      obtain ⟨e9, Nex, Se, De⟩ := shelf_news (its := its') (lsts := lsts) F10 ⟨oL, hLo⟩ F9.keep (fun y hy => by
        obtain ⟨j, l', xs, e1, e2, e3, e4⟩ := shelf_ref hsh' hy
        exact ⟨l', xs, e1, e4⟩) (fun p hp => hk9 _ _ (hls p hp).1 (N9 p (.tail _ (.tail _ (.tail _ (.tail _ (.tail _ (.tail _ (.tail _ (.tail _ (.tail _ (.tail _ hp))))))))))).1) hsh9 hfr9
      have hL1 : ∀ j, L + j ≠ sa := fun j => Nat.ne_of_gt (Nat.lt_of_lt_of_le hsaL (Nat.le_add_right L j))
      have hoffsa := hoff.mem (sa, W.listOf its' k') (.tail _ (.tail _ (.tail _ (.tail _ (.tail _ (.tail _ (.head _)))))))
      have hpre : ∀ p ∈ [(I, oI), (oC2, oC), (D, lst ys), (D1, W.listOf #[Value.int (kk v) tkk] 0), (L + 1 + 1 + 1 + 1 + 1, o1), (L + 1 + 1 + 1 + 1, o2), (L + 1 + 1 + 1, o3), (L + 1 + 1, o4), (L + 1, o5)], p.1 ≠ sa := fun p hp => by
        simp only [List.mem_cons, List.not_mem_nil, or_false] at hp
        rcases hp with rfl | rfl | rfl | rfl | rfl | rfl | rfl | rfl | rfl
        · exact Ne.symm hoffsa.1
        · exact Ne.symm hoffsa.2.1
        · exact Ne.symm hoffsa.2.2
        · exact Nat.ne_of_gt hDsa
        · exact hL1 5
        · exact hL1 4
        · exact hL1 3
        · exact hL1 2
        · exact hL1 1
      have N10 := news_swap (pre := [(I, oI), (oC2, oC), (D, lst ys), (D1, W.listOf #[Value.int (kk v) tkk] 0), (L + 1 + 1 + 1 + 1 + 1, o1), (L + 1 + 1 + 1 + 1, o2), (L + 1 + 1 + 1, o3), (L + 1 + 1, o4), (L + 1, o5)]) N9 hk9 hs9 hpre (fun p hp => (hls p hp).1) Nex
      have hne9 : ∀ p ∈ e9, ∀ q o, (q, o) ∈ ((I, oI) :: (oC2, oC) :: (D, lst ys) :: (D1, W.listOf #[Value.int (kk v) tkk] 0) :: (L + 1 + 1 + 1 + 1 + 1, o1) :: (L + 1 + 1 + 1 + 1, o2) :: (L + 1 + 1 + 1, o3) :: (L + 1 + 1, o4) :: (L + 1, o5) :: (sa, W.listOf its' k') :: lsts) → p.1 ≠ q := fun p hp q o hq e => by
        have := De p hp
        rw [e, (N9 _ hq).1] at this; cases this
      have hfr2 : ∀ y ∈ its9, y ∈ its ∨ ∃ l : Addr, y = Value.ref l ∧ s.heap.get? l = none := fun y hy => by
        rcases hfr9 y hy with q | ⟨l', e, q⟩
        · exact hfr y q
        · refine .inr ⟨l', e, ?_⟩
          cases q2 : s.heap.get? l' with
          | none => rfl
          | some o =>
            by_cases q3 : l' = sa
            · rw [q3, hsaN.1] at q; cases q
            · rw [F9.keep _ _ (hg l' o q2 (by simpa using q3))] at q; cases q
      refine zzH ?_
      clear zzH zzG
      refine ⟨h9, tk9, (D1, W.listOf #[Value.int (kk v) tkk] 0) :: (L + 1 + 1 + 1 + 1 + 1, o1) :: (L + 1 + 1 + 1 + 1, o2) :: (L + 1 + 1 + 1, o3) :: (L + 1 + 1, o4) :: (L + 1, o5) :: (sa, W.listOf its9 k9) :: (lsts ++ e9), rfl, F10, N10, off_swap (pre := [(D1, W.listOf #[Value.int (kk v) tkk] 0), (L + 1 + 1 + 1 + 1 + 1, o1), (L + 1 + 1 + 1 + 1, o2), (L + 1 + 1 + 1, o3), (L + 1 + 1, o4), (L + 1, o5)]) hoff (fun p hp => ⟨hne9 p hp _ _ (.head _), hne9 p hp _ _ (.tail _ (.head _)), hne9 p hp _ _ (.tail _ (.tail _ (.head _)))⟩), .inl hl2,
        its9, k9, xss9, ex ++ ex9, lsts ++ e9, ids ++ [i9], rfl, Se, by rw [← List.append_assoc]; exact hok9, hfr2, fun p hp => ?_, ?_, ?_⟩
      · rcases List.mem_append.mp hp with hp | hp
        · exact hls p hp
        · refine ⟨hne9 p hp _ _ (by k_mem), hne9 p hp _ _ (.tail _ (.tail _ (.tail _ (.head _)))), five_ne (hne9 p hp (L + 1) o5 (by k_mem)) (hne9 p hp (L + 1 + 1) o4 (by k_mem)) (hne9 p hp (L + 1 + 1 + 1) o3 (by k_mem)) (hne9 p hp (L + 1 + 1 + 1 + 1) o2 (by k_mem)) (hne9 p hp (L + 1 + 1 + 1 + 1 + 1) o1 (by k_mem))⟩
      · have e : castL (ids ++ [i9]) = castL ids ++ [(i9 : Int)] := by unfold castL; rw [List.map_append]; rfl
        rw [e]
        exact IntsAre.append hys (.cons _ _ .nil)
      · rw [kidsR_add hw' hwu, ← List.append_assoc, List.map_append, List.map_append, map_ext hids]
        show _ ++ [(cs ++ ex ++ ex9)[i9]?] = _ ++ [some (C w' v)]
        rw [hci]
  · rintro ys nw ⟨its', k', xss', ex, lsts, ids, rfl, hsh', hok', hfr, hls, hys, hids⟩ D2 h5 tk5 F5 N5 hoff5
    show wpAny _ _ _ _ _ _
    k_fold
    k_steps
    refine Hold.mk ?_
    (rename Fr _ _ _ _ => F9)
    (rename News _ _ _ _ => N9)
    have hidl : ids.length ≤ 8 := by
      have := congrArg List.length hids
      rw [List.length_map, List.length_map] at this
      rw [this]
      exact Nat.le_trans (kidsR_len nb C v u _) (V.nbl v hv)
    have hcl : (castL ids).length = ids.length := by unfold castL; rw [List.length_map]
    k_dflt (refine kso_sorted F9 N9 (News.isList N9 (.head _)) hys (by lia) ?_)
    intro D3 vs3 ns3 c3 h7 F7 N7 hlt7 hi7 hln7 hp7 hs7 _
    k_steps
    refine Hold.mk ?_
    (rename Fr _ _ _ _ => F10)
    (rename News _ _ _ _ => N10)
    k_dflt (refine kmk_add_ints (vs := [Value.int (kk v) tkk]) (ns := [kk v]) F10 N10 (News.isList N10 (.tail _ (.tail _ (.head _)))) (News.isList N10 (.head _)) (.cons _ _ .nil) hi7 ?_ ?_)
    · intro D4 us h8 F8 N8 hlt8 hus
      k_steps
      refine Hold.mk ?_
      (rename Fr _ _ _ _ => F11)
      (rename News _ _ _ _ => N11)
      obtain ⟨ids3, rfl, hp3⟩ := perm_cast hp7
      have hent : EntryOk n nb kk C (cs ++ ex) v u (kk v :: castL ids3) := ⟨hv, hu, hu2, ids3, rfl, hs7, by
        have := hp3.map fun i => (cs ++ ex)[i]?
        rw [hids, hi0] at this
        exact this⟩
      have hsub : ∀ p ∈ lsts, p ∈ (D4, W.listOf us.toArray 0) :: (D3, W.listOf vs3.toArray c3) :: (D2, lst ys) :: (D1, W.listOf #[Value.int (kk v) tkk] 0) :: (L + 1 + 1 + 1 + 1 + 1, o1) :: (L + 1 + 1 + 1 + 1, o2) :: (L + 1 + 1 + 1, o3) :: (L + 1 + 1, o4) :: (L + 1, o5) :: (sa, W.listOf its' k') :: lsts :=
        fun p hp => .tail _ (.tail _ (.tail _ (.tail _ (.tail _ (.tail _ (.tail _ (.tail _ (.tail _ (.tail _ hp)))))))))
      have hview : IntList _ D4 (kk v :: castL ids3) := ⟨_, (N11 _ (.head _)).1, rfl, _, _, rfl, hus⟩
      have hcur := hsh'.mono fun l xs x => LstIn.at F11 N11 hsub x
      have hlen := ShelfOk.len V.n8 hok'
      have hsaD : ∀ p ∈ [(D4, W.listOf us.toArray 0), (D3, W.listOf vs3.toArray c3), (D2, lst ys), (D1, W.listOf #[Value.int (kk v) tkk] 0), (L + 1 + 1 + 1 + 1 + 1, o1), (L + 1 + 1 + 1 + 1, o2), (L + 1 + 1 + 1, o3), (L + 1 + 1, o4), (L + 1, o5)], p.1 ≠ sa := fun p hp => by
        have hL1 : ∀ j, L + j ≠ sa := fun j => Nat.ne_of_gt (Nat.lt_of_lt_of_le hsaL (Nat.le_add_right L j))
        simp only [List.mem_cons, List.not_mem_nil, or_false] at hp
        rcases hp with rfl | rfl | rfl | rfl | rfl | rfl | rfl | rfl | rfl
        · exact Nat.ne_of_gt (hlt8 (sa, W.listOf its' k') (by k_mem))
        · exact Nat.ne_of_gt (hlt7 (sa, W.listOf its' k') (by k_mem))
        · exact Ne.symm hoff5.2.2.2.2.2.2.1
        · exact Nat.ne_of_gt hDsa
        · exact hL1 5
        · exact hL1 4
        · exact hL1 3
        · exact hL1 2
        · exact hL1 1
      k_dflt (refine notin_shelf (its := its') ?xx1 hcur hview ?xx2 ?_; (case xx1 => exact News.isList N11 (by k_mem)); (case xx2 => show A.units + 3 + 1 < _; lia))
      by_cases hx : (kk v :: castL ids3) ∈ xss'
      · have hx1 : (!decide ((kk v :: castL ids3) ∈ xss')) = false := by rw [decide_eq_true hx]; rfl
        k_steps
        refine Hold.mk ?_
        obtain ⟨j, hj, hje⟩ := List.getElem_of_mem hx
        have hj2 : xss'[j]? = some (kk v :: castL ids3) := by rw [List.getElem?_eq_getElem hj, hje]
        k_dflt (refine index_shelf (its := its') ?ww1 hcur hview ?ww2 hj2 (ShelfOk.nodup V hok') (by lia) ?_; (case ww1 => exact News.isList N11 (by k_mem)); (case ww2 => show A.units + 3 + 10 < _; lia))
        k_steps
        exact ⟨_, _, its', k', xss', ex, j, _, rfl, fun a o ne e => F11.keep _ _ (hg a o e (by simpa using ne)), (N11 (sa, W.listOf its' k') (by k_mem)).1, hcur, hok', hfr, rfl, ShelfOk.at V hok' hent hj2⟩
      · have hx1 : (!decide ((kk v :: castL ids3) ∈ xss')) = true := by rw [decide_eq_false hx]; rfl
        k_steps
        refine Hold.mk ?_
        have hfrD : s.heap.get? D4 = none := by
          cases q : s.heap.get? D4 with
          | none => rfl
          | some o =>
            have z := hg D4 o q (by simpa using hsaD _ (.head _))
            rw [(N11 _ (.head _)).2.2] at z; cases z
        k_dflt (refine' append_K F11 N11 (.tail (hsaD _ (by k_mem)) (.tail (hsaD _ (by k_mem)) (.tail (hsaD _ (by k_mem)) (.tail (hsaD _ (by k_mem)) (.tail (hsaD _ (by k_mem)) (.tail (hsaD _ (by k_mem)) (.tail (hsaD _ (by k_mem)) (.tail (hsaD _ (by k_mem)) (.tail (hsaD _ (by k_mem)) (.head fun p hp => (hls p hp).1)))))))))) ?_ ?ss1; (case ss1 => rw [hsh'.1, sizeLine_eq]; lia))
        intro h12 F12 N12
        clear F11 N11 hcur hview
        k_steps
        refine Hold.mk ?_
        have hsub2 : ∀ p ∈ lsts, p ∈ (D4, W.listOf us.toArray 0) :: (D3, W.listOf vs3.toArray c3) :: (D2, lst ys) :: (D1, W.listOf #[Value.int (kk v) tkk] 0) :: (L + 1 + 1 + 1 + 1 + 1, o1) :: (L + 1 + 1 + 1 + 1, o2) :: (L + 1 + 1 + 1, o3) :: (L + 1 + 1, o4) :: (L + 1, o5) :: (sa, W.listOf (its'.push (.ref D4)) (k' + 1)) :: lsts :=
          fun p hp => .tail _ (.tail _ (.tail _ (.tail _ (.tail _ (.tail _ (.tail _ (.tail _ (.tail _ (.tail _ hp)))))))))
        have hview : IntList _ D4 (kk v :: castL ids3) := ⟨_, (N12 _ (.head _)).1, rfl, _, _, rfl, hus⟩
        have hcur := (hsh'.mono fun l xs x => LstIn.at F12 N12 hsub2 x).push hview
        have hnm := ShelfOk.not_mem V hok' hent hx
        have hok2 := ShelfOk.add hok' hent hnm
        rw [List.append_assoc] at hok2
        have hj2 : (xss' ++ [kk v :: castL ids3])[xss'.length]? = some (kk v :: castL ids3) := by simp
        k_dflt (refine index_shelf (its := its'.push (.ref D4)) ?ww3 hcur hview ?ww4 hj2 (ShelfOk.nodup V hok2) (by rw [List.length_append, List.length_singleton]; lia) ?_; (case ww3 => exact News.isList N12 (by k_mem)); (case ww4 => show A.units + 3 + 10 < _; lia))
        k_steps
        refine ⟨_, _, its'.push (.ref D4), k' + 1, xss' ++ [kk v :: castL ids3], ex ++ [C v u], xss'.length, _, rfl, fun a o ne e => F12.keep _ _ (hg a o e (by simpa using ne)), (N12 (sa, W.listOf (its'.push (.ref D4)) (k' + 1)) (by k_mem)).1, hcur, hok2, fun y hy => ?_, rfl, ShelfOk.at V hok2 (by rw [← List.append_assoc]; exact hent.ext _) hj2⟩
        rcases Array.mem_push.mp hy with q | q
        · exact hfr y q
        · exact .inr ⟨D4, q, hfrD⟩
    · rw [hln7, sizeLine_eq]; simp; lia
  · exact ⟨its, k, xss, [], [], [], rfl, ⟨hsh.1, fun j xs hj => by
      obtain ⟨l, a, b⟩ := hsh.2 j xs hj
      have hne := shelf_ne hs hsh hok hj a b
      obtain ⟨o, ho, r⟩ := b
      exact ⟨l, a, o, .inr (hg _ _ ho (by simpa using hne)), r⟩⟩, by rw [List.append_nil]; exact hok, fun y hy => .inl hy, (fun p hp => by cases hp), .nil, rfl⟩
end
theorem kw_W2_z : True := by
  k_with_none
  trivial
end Mine
end

section
open PySem PySem.W PySem.Spec PySem.Calls PyProof.Rows
set_option Elab.async false
set_option maxRecDepth 100000
namespace Mine
section
variable {M : Model} {A : Around} {R : GenEnd} {Y : Protocol} {n : Nat} {s₀ : Shared} {c : Code} {fs : List Frame} {s : Shared} {env : Env}
  {K : Flow → Sem Fin} {H : Value → Sem Fin} {gd : Bool → Bool} {lv : List Value → List Value}
theorem seg_stmt {m : Sem Flow} (h : wpAny M (A.over c fs) m (fun f s' => Seg M A R Y n s₀ c (K f) fs s') NE s) : Seg M A R Y n s₀ c (m.wrap K H gd lv) fs s :=
  seg_wrap (wpAny_mono h (fun _ _ q => q) fun _ _ q => q.elim)
theorem seg_If {test : Expr} {body orelse : List Stmt} {pos : Pos}
    (h : wpAny M (A.over c fs) (isTrue test env (eval test env)) (fun b s' => if b = true then Seg M A R Y n s₀ c ((execs body env).wrap K H gd lv) fs s' else Seg M A R Y n s₀ c ((execs orelse env).wrap K H gd lv) fs s') NE s) :
    Seg M A R Y n s₀ c ((exec (.If test body orelse pos) env).wrap K H gd lv) fs s := by
  rw [exec_If]
  show Seg M A R Y n s₀ c (.at pos fun _ => ((isTrue test env (eval test env) >>= fun b => if b = true then execs body env else execs orelse env).wrap K H gd lv)) fs s
  refine seg_at ?_
  rw [Sem.bind_eq_wrap', Sem.wrap_wrap]
  refine seg_wrap (wpAny_mono h (fun b s' hb => ?_) fun _ _ q => q.elim)
  cases b with
  | true => exact hb
  | false => exact hb
/-- the frame below a for's own activation -/
abbrev ownFrame (env : Env) (K : Flow → Sem Fin) (H : Value → Sem Fin) (gd : Bool → Bool) (lv : List Value → List Value) (c : Code) (p : Pos) : Frame :=
  .ret (fun r => ((match r with | .ok f => (.pure f : Sem Flow) | .error e => .raise e).onRaise fun (x : Value) => do
        if (← field x 1) == Value.none then unsupported "frame.own-activation:exception-without-traceback"
        setFlight x env.frame).wrap K H gd lv) none (gd false) (lv []) c p []
theorem seg_For {target iter : Expr} {body orelse : List Stmt} {pos : Pos}
    (h : wpAny M (A.over c fs) (eval iter env) (fun x s₁ => wpAny M (A.over c fs) (pyIter x) (fun it s₂ => ∀ p,
      Seg M A R Y n s₀ (.forLoop target it body orelse env) (M.den (.forLoop target it body orelse env)) (ownFrame env K H gd lv c p :: fs) s₂) NE s₁) NE s)
    (hs : ∀ x, foldedSetIterable iter env x = pure x := by intro _; rfl) :
    Seg M A R Y n s₀ c ((exec (.For target iter body orelse pos) env).wrap K H gd lv) fs s := by
  rw [exec_For]
  refine seg_at ?_
  show Seg M A R Y n s₀ c ((eval iter env >>= fun a => (foldedSetIterable iter env a >>= fun x => (standAt iter.pos >>= fun _ => (holding [x] (pyIter x) >>= fun it => runOwn (.forLoop target it body orelse env) env)))).wrap K H gd lv) fs s
  rw [Sem.bind_eq_wrap', Sem.wrap_wrap]
  refine seg_wrap (wpAny_mono h (fun x s₁ h₁ => ?_) fun _ _ q => q.elim)
  rw [hs x]
  refine seg_at ?_
  show Seg M A R Y n s₀ c ((holding [x] (pyIter x) >>= fun it => runOwn (.forLoop target it body orelse env) env).wrap K H gd lv) fs s₁
  rw [Sem.bind_eq_wrap', Sem.wrap_wrap]
  refine seg_wrap (wpAny_holding (wpAny_mono h₁ (fun it s₂ h₂ => ?_) fun _ _ q => q.elim))
  exact seg_call h₂
end
section
variable {prog : Program} {w : World} {A : Around} {R : GenEnd} {Y : Protocol} {n : Nat} {s₀ : Shared} {fs : List Frame} {s : Shared} {env : Env}
abbrev bodyK (target : Expr) (it : Value) (body : List Stmt) (env : Env) : Flow → Sem Fin := fun f => match f with
  | .next | .cont => .pure (.again (.forLoop target it body [] env))
  | .brk => .pure (.done .next)
  | .ret v => .pure (.done (.ret v))
abbrev bodyH (env : Env) : Value → Sem Fin := fun e => (do noteFrame e env; theTreesLotGoes e : Sem Unit).wrap (fun _ => .raise e) .raise id id
theorem seg_forLoop {target : Expr} {it : Value} {body : List Stmt} {K : Flow → Sem Fin} {H : Value → Sem Fin} {gd : Bool → Bool} {lv : List Value → List Value} {c : Code} {p : Pos}
    (h : wpAny (model prog w) (A.over (.forLoop target it body [] env) (ownFrame env K H gd lv c p :: fs)) (pyNext it) (fun r s₁ => match r with
      | none => Seg (model prog w) A R Y n s₀ c (K .next) fs s₁
      | some v => wpAny (model prog w) (A.over (.forLoop target it body [] env) (ownFrame env K H gd lv c p :: fs)) (letOwnedTupleGo target it v) (fun _ s₂ =>
          wpAny (model prog w) (A.over (.forLoop target it body [] env) (ownFrame env K H gd lv c p :: fs)) (assign target env v) (fun _ s₃ =>
            Seg (model prog w) A R Y n s₀ (.forLoop target it body [] env) ((execs body env).wrap (bodyK target it body env) (bodyH env) id id) (ownFrame env K H gd lv c p :: fs) s₃) NE s₂) NE s₁) NE s) :
    Seg (model prog w) A R Y n s₀ (.forLoop target it body [] env) ((model prog w).den (.forLoop target it body [] env)) (ownFrame env K H gd lv c p :: fs) s := by
  show Seg _ A R Y n s₀ _ ((forTurn target it body [] env).onRaise (fun x => do noteFrame x env; theTreesLotGoes x)) _ s
  rw [Sem.onRaise_eq_wrap]
  refine seg_at ?_
  show Seg _ A R Y n s₀ _ ((((pyNext it).onRaise (fun _ => standAt { target.pos with line := 0 })) >>= fun r => (match r with
    | none => again (.block [] env)
    | some v => letOwnedTupleGo target it v >>= fun _ => assign target env v >>= fun _ => execs body env >>= fun f => match f with
      | .next | .cont => again (.forLoop target it body [] env)
      | .brk => pure (.done .next)
      | .ret v => pure (.done (.ret v)) : Sem Fin)).wrap .pure (fun e => (do noteFrame e env; theTreesLotGoes e : Sem Unit).bind fun _ => .raise e) id id) _ s
  rw [Sem.bind_eq_wrap', Sem.wrap_wrap]
  refine seg_wrap (wpAny_onRaise (wpAny_mono h (fun r s₁ h₁ => ?_) fun _ _ q => q.elim))
  cases r with
  | none =>
    refine seg_again rfl ?_
    exact seg_leaf (.ok .next) h₁
  | some v =>
    show Seg _ A R Y n s₀ _ ((letOwnedTupleGo target it v >>= fun _ => (assign target env v >>= fun _ => (execs body env >>= fun f => (match f with
      | .next | .cont => again (.forLoop target it body [] env)
      | .brk => pure (.done .next)
      | .ret v => pure (.done (.ret v)) : Sem Fin)))).wrap .pure (fun e => (do noteFrame e env; theTreesLotGoes e : Sem Unit).bind fun _ => .raise e) id id) _ s₁
    rw [Sem.bind_eq_wrap', Sem.wrap_wrap]
    refine seg_wrap (wpAny_mono h₁ (fun _ s₂ h₂ => ?_) fun _ _ q => q.elim)
    show Seg _ A R Y n s₀ _ ((assign target env v >>= fun _ => (execs body env >>= fun f => (match f with
      | .next | .cont => again (.forLoop target it body [] env)
      | .brk => pure (.done .next)
      | .ret v => pure (.done (.ret v)) : Sem Fin))).wrap .pure (fun e => (do noteFrame e env; theTreesLotGoes e : Sem Unit).bind fun _ => .raise e) id id) _ s₂
    rw [Sem.bind_eq_wrap', Sem.wrap_wrap]
    refine seg_wrap (wpAny_mono h₂ (fun _ s₃ h₃ => ?_) fun _ _ q => q.elim)
    show Seg _ A R Y n s₀ _ ((execs body env >>= fun f => (match f with
      | .next | .cont => again (.forLoop target it body [] env)
      | .brk => pure (.done .next)
      | .ret v => pure (.done (.ret v)) : Sem Fin)).wrap .pure (fun e => (do noteFrame e env; theTreesLotGoes e : Sem Unit).bind fun _ => .raise e) id id) _ s₃
    rw [Sem.bind_eq_wrap', Sem.wrap_wrap]
    rw [Sem.wrap_congr (execs body env) _ _ (K' := bodyK target it body env) (H' := bodyH env) (fun f => by cases f <;> rfl) (fun e => by
      first | exact Sem.bind_eq_wrap _ _ | (show (do noteFrame e env; theTreesLotGoes e : Sem Unit).bind (fun _ => .raise e) = _; rw [Sem.bind_eq_wrap]))]
    exact h₃
/-- a for inside a generator, by an invariant: k turns are left, n yields -/
theorem seg_forLoop_ind {target : Expr} {it : Value} {body : List Stmt} {K : Flow → Sem Fin} {H : Value → Sem Fin} {gd : Bool → Bool} {lv : List Value → List Value} {c : Code} {p : Pos} (I : Nat → Nat → Shared → Shared → Prop)
    (turn : ∀ k n s₀ s, I k n s₀ s → (∀ k' n' s₀' s', k' < k → I k' n' s₀' s' → Seg (model prog w) A R Y n' s₀' (.forLoop target it body [] env) ((model prog w).den (.forLoop target it body [] env)) (ownFrame env K H gd lv c p :: fs) s') →
      wpAny (model prog w) (A.over (.forLoop target it body [] env) (ownFrame env K H gd lv c p :: fs)) (pyNext it) (fun r s₁ => match r with
      | none => Seg (model prog w) A R Y n s₀ c (K .next) fs s₁
      | some v => wpAny (model prog w) (A.over (.forLoop target it body [] env) (ownFrame env K H gd lv c p :: fs)) (letOwnedTupleGo target it v) (fun _ s₂ =>
          wpAny (model prog w) (A.over (.forLoop target it body [] env) (ownFrame env K H gd lv c p :: fs)) (assign target env v) (fun _ s₃ =>
            Seg (model prog w) A R Y n s₀ (.forLoop target it body [] env) ((execs body env).wrap (bodyK target it body env) (bodyH env) id id) (ownFrame env K H gd lv c p :: fs) s₃) NE s₂) NE s₁) NE s)
    (k : Nat) : ∀ n s₀ s, I k n s₀ s → Seg (model prog w) A R Y n s₀ (.forLoop target it body [] env) ((model prog w).den (.forLoop target it body [] env)) (ownFrame env K H gd lv c p :: fs) s := by
  induction k using Nat.strongRecOn with
  | ind k ih =>
    intro n s₀ s hI
    exact seg_forLoop (turn k n s₀ s hI fun k' n' s₀' s' hk hI' => ih k' hk n' s₀' s' hI')
end
section
variable {w : World} {mean : ExcName → Option Value} {mg mb : Str → Option Value}
/-- a generator's def, called: its frame and the generator are made -/
theorem enterGen {A : Around} {s : Shared} {G : Heap} {name qual : Str} {params : Arguments} {body : List Stmt} {scope : Scope} {dV kV doc pm cdv ct oc : Value} {an od : Option Addr} {osl : Array (Option Value)} {f : Addr} {args : List Value} {binds : List (Str × Value)} {Q : Value → Shared → Prop}
    (X : (hd.heap_39 w.params).In G) (T : Top PV LO mean mg mb G) (st : G.StaysIn s.heap)
    (ho : (hd.heap_39 w.params).lookup f = some ⟨oc, od, .func (fnOf name qual params body scope dV kV doc pm an cdv ct), osl⟩) (hcd : codeIn (hd.heap_39 w.params) cdv qual = true)
    (hroom : A.depth < recursionLimit) (hbind : bindArgs (fnOf name qual params body scope dV kV doc pm an cdv ct) ⟨args, []⟩ = pure binds) (hloc : ∀ y ∈ binds, scope.names.lookup y.1 = some .local)
    (hcell : ∀ x ∈ scope.names, x.2 ≠ .cell) (hco : scope.isCoroutine = false) (hgen : scope.isGenerator = true) (hk : scope.kind = .function)
    (h : ∀ h', h'.Ns s.heap.objs.size (fun y => binds.reverse.lookup y) → h'.IsGen (s.heap.objs.size + 1) s.gens.size → h'.objs.size = s.heap.objs.size + 2 → (∀ a o, s.heap.get? a = some o → h'.get? a = some o) → ∀ tk,
      Q (.ref (s.heap.objs.size + 1)) { s with heap := h', gens := s.gens.push (.fresh (.func body (envOf qual scope s.heap.objs.size f cdv))), toks := tk }) :
    wpAny (MD w) A (call (.ref f) args) Q NE s := by
  have Xs : (hd.heap_39 w.params).In s.heap := X.keeps st
  refine wpAny_call ?_
  refine codeAny_call_generator (fd := fnOf name qual params body scope dV kV doc pm an cdv ct) (body := body) hroom (Xs _ _ ho) rfl hco hgen rfl (codeRec_of Xs hcd) ?_
  refine wpAny_of_eq hbind ?_
  refine wpAny_newFunctionEnv hcell hloc (fun h₁ hns hsb => ?_) hk
  have hlim : s.heap.NoLimit := T.nolimit.keeps st
  refine ⟨hlim.fresh _ hsb, ?_⟩
  have hz : h₁.objs.size = s.heap.objs.size + 1 := by rw [hsb.1, Heap.size_push]
  have hk1 : ∀ a o, s.heap.get? a = some o → h₁.get? a = some o := fun a o e => hsb.extBut a o (Nat.ne_of_lt (Heap.lt_size e)) (Heap.get?_push_of_some _ e)
  have key := h (h₁.push { cls := .type "generator", data := .fields #[.int s.gens.size 0, .str name (s.toks + binds.length), .str qual (s.toks + binds.length + 1)] }) ?_ ?_ ?_ ?_ (s.toks + binds.length + 1 + 1)
  · rw [← hz] at key
    exact key
  · exact hns.keeps fun b o e => Heap.get?_push_of_some _ e
  · rw [← hz]
    exact ⟨_, _, _, Heap.get?_push_size _ rfl, rfl, rfl, rfl⟩
  · rw [Heap.size_push, hz]
  · exact fun a o e => Heap.get?_push_of_some _ (hk1 a o e)
end
end Mine
end

section
open PySem PySem.W PySem.Spec PySem.Calls PyProof.Rows PyProof.Rows.LCg
set_option Elab.async false
set_option maxRecDepth 100000
namespace Mine
/-- what _iter_escaped_chars yields -/
def runE : Nat → Bool → List Nat → List (Nat × List Nat)
  | _, _, [] => []
  | i, true, c :: r => (i, [92, c]) :: runE (i + 1) false r
  | i, false, c :: r => if c = 92 then runE (i + 1) true r else (i, [c]) :: runE (i + 1) false r
def endE : Bool → List Nat → Bool
  | b, [] => b
  | true, _ :: r => endE false r
  | false, c :: r => endE (c == 92) r
def OnlyG (own : List Addr) (s₀ s₁ : Shared) : Prop := ∃ h' tk', s₁ = { s₀ with heap := h', toks := tk' } ∧ ∀ a o, a ∉ own → s₀.heap.get? a = some o → h'.get? a = some o
def SameG (own : List Addr) (G : Heap) (s₁ s₂ : Shared) : Prop := (∀ a ∈ own, s₂.heap.get? a = s₁.heap.get? a) ∧ G.StaysIn s₂.heap
def YG (own : List Addr) (G : Heap) (sp : List (Nat × List Nat)) : Protocol := fun m s₀ v s₁ kap =>
  ∃ (pr : Nat × List Nat) (t : Addr) (tp tc : Tok), sp[sp.length - (m + 1)]? = some pr ∧ m + 1 ≤ sp.length ∧ OnlyG own s₀ s₁ ∧ v = Value.ref t ∧ s₀.heap.get? t = none ∧ t ∉ own ∧ IsTup s₁.heap t [Value.int (pr.1 : Nat) tp, .str (strL pr.2) tc].toArray ∧ (∀ a ∈ own, ∃ o, s₁.heap.get? a = some o) ∧
    ∀ s₂, SameG own G s₁ s₂ → kap (.send .none) s₂
def RG (own : List Addr) : GenEnd := fun n s₀ r s₁ => r = .ok (.ret .none) ∧ (n = 0 ∧ OnlyG own s₀ s₁)
/-- all that stands beside the base and the generator's own -/
def restOf (h : Heap) (own : List Addr) (G : Heap) : List (Addr × Obj) := (List.range h.objs.size).filterMap fun a => if a ∈ own ∨ (G.get? a).isSome then none else (h.get? a).map fun o => (a, o)
theorem mem_restOf {h : Heap} {own : List Addr} {G : Heap} {p : Addr × Obj} : p ∈ restOf h own G ↔ p.1 ∉ own ∧ G.get? p.1 = none ∧ h.get? p.1 = some p.2 := by
  unfold restOf
  rw [List.mem_filterMap]
  constructor
  · rintro ⟨a, ha, e⟩
    split at e
    · cases e
    · rename_i q
      obtain ⟨o, ho, rfl⟩ := Option.map_eq_some_iff.mp e
      refine ⟨fun x => q (.inl x), ?_, ho⟩
      cases z : G.get? a with
      | none => rfl
      | some o' => exact absurd (.inr (by rw [z]; rfl)) q
  · rintro ⟨h1, h2, h3⟩
    refine ⟨p.1, List.mem_range.mpr (Heap.lt_size h3), ?_⟩
    rw [if_neg (by rintro (x | x); exact h1 x; rw [h2] at x; cases x), h3]
    rfl
theorem onlyG_of {G : Heap} {Lg : Addr} {m : Str → Option Value} {own : List Addr} {s₀ : Shared} {h' : Heap} {tk' : Tok} {ld : List (Addr × Obj)} (st : G.StaysIn s₀.heap) (F : Fr G Lg h' m) (N : News G Lg h' ld) (sub : ∀ p ∈ restOf s₀.heap own G, p ∈ ld) : OnlyG own s₀ { s₀ with heap := h', toks := tk' } := by
  refine ⟨h', tk', rfl, fun a o ha e => ?_⟩
  cases q : G.get? a with
  | some o' =>
    have := st a o' q
    rw [e] at this; cases this
    exact F.keep _ _ q
  | none => exact (N (a, o) (sub _ (mem_restOf.mpr ⟨ha, q, e⟩))).1
inductive GI (x : Str) (tx : Tok) (G : Heap) (Lg it e : Addr) (sp : List (Nat × List Nat)) (k n : Nat) (s₀ s : Shared) : Prop
  | mk : ∀ (i : Nat) (esc : Bool) (m : Str → Option Value) (old : Value), k = x.cps.size - i → i ≤ x.cps.size → s.heap.Ns Lg m → m "escape" = some (.bool esc) → IsEnum s.heap e it i old → s.heap.IsStrIter it (strIterType x) x tx i → OnlyG [Lg, it, e] s₀ s → G.StaysIn s.heap → runE i esc (x.cps.toList.drop i) = sp.drop (sp.length - n) → n ≤ sp.length → endE esc (x.cps.toList.drop i) = false → GI x tx G Lg it e sp k n s₀ s
theorem OnlyG.trans {own : List Addr} {a b c : Shared} (h1 : OnlyG own a b) (h2 : OnlyG own b c) : OnlyG own a c := by
  obtain ⟨h', tk', rfl, k1⟩ := h1
  obtain ⟨h'', tk'', rfl, k2⟩ := h2
  exact ⟨h'', tk'', rfl, fun x o hx e => k2 x o hx (k1 x o hx e)⟩
theorem drop_head {α : Type} {sp r : List α} {a : α} {k : Nat} (h : a :: r = sp.drop k) : sp[k]? = some a ∧ r = sp.drop (k + 1) := by
  constructor
  · have := congrArg (fun l => l[0]?) h
    simpa using this.symm
  · have := congrArg List.tail h
    rw [List.tail_cons, List.tail_drop] at this
    exact this
theorem allLt_mem {d : Addr} : ∀ {l : List (Addr × Obj)}, AllLt d l → ∀ p ∈ l, @LT.lt Nat _ p.1 d
  | [], _, _, h => nomatch h
  | _ :: _, x, p, h => by
    rcases List.mem_cons.mp h with rfl | h
    · exact x.1
    · exact allLt_mem x.2 p h
theorem bs_cons (c : Nat) : (Str.ofString "\\" ++ (⟨#[c]⟩ : Str)) = strL [92, c] := by
  show (⟨(Str.ofString "\\").cps ++ #[c]⟩ : Str) = _
  rw [show (Str.ofString "\\").cps = #[92] by decide +kernel]; rfl
/-- a new tuple of the generator's is new to the one that woke it -/
theorem new_tup {G : Heap} {Lg it t : Addr} {s₀ s₃ : Shared} (hLg : Lg ≠ t) (h1 : (it : Nat) < t) (h2 : (it : Nat) + 1 < t) (hl : AllLt t (restOf s₃.heap [Lg, it, it + 1] G)) (hg : G.get? t = none) (hon : OnlyG [Lg, it, it + 1] s₀ s₃) : t ∉ [Lg, it, it + 1] ∧ s₀.heap.get? t = none := by
  have hno : t ∉ [Lg, it, it + 1] := fun q => by
    simp only [List.mem_cons, List.not_mem_nil, or_false] at q
    rcases q with rfl | rfl | rfl
    · exact hLg rfl
    · exact Nat.lt_irrefl _ h1
    · exact Nat.lt_irrefl _ h2
  refine ⟨hno, ?_⟩
  cases q : s₀.heap.get? t with
  | none => rfl
  | some o =>
    obtain ⟨h', tk', e, k⟩ := hon
    have e3 : s₃.heap.get? t = some o := by rw [e]; exact k t o hno q
    exact absurd (allLt_mem hl (t, o) (mem_restOf.mpr ⟨hno, hg, e3⟩)) (Nat.lt_irrefl _)
/-- after a wake: what the generator owns still stands -/
theorem woken {x : Str} {tx : Tok} {G h' : Heap} {Lg it : Addr} {m : Str → Option Value} {s s₄ : Shared} {i : Nat} {old : Value} {oi : Obj} (hh : s.heap = h') (hs : SameG [Lg, it, it + 1] G s s₄) (hn : h'.Ns Lg m) (he : IsEnum h' (it + 1) it i old) (ho : h'.get? it = some oi) (hc : oi.cls = .type (strIterType x)) (hd : oi.data = .fields #[.str x tx, .int i 0]) :
    s₄.heap.Ns Lg m ∧ IsEnum s₄.heap (it + 1) it i old ∧ s₄.heap.IsStrIter it (strIterType x) x tx i := by
  subst hh
  refine ⟨hn.at' fun o e => (hs.1 Lg (by simp)).trans e, ?_, oi, (hs.1 it (by simp)).trans ho, hc, hd⟩
  show s₄.heap.get? (it + 1) = _
  rw [hs.1 (it + 1) (by simp)]; exact he
/-- a store into the generator's frame -/
theorem after_store {x : Str} {tx : Tok} {G : Heap} {Lg it : Addr} {s₀ s₄ : Shared} {h₅ : Heap} {tk : Tok} {i : Nat} {old : Value} (hG : G.objs.size ≤ Lg) (hlt : (Lg : Nat) < it) (hon : OnlyG [Lg, it, it + 1] s₀ s₄) (hGs : G.StaysIn s₄.heap) (he : IsEnum s₄.heap (it + 1) it i old) (hi : s₄.heap.IsStrIter it (strIterType x) x tx i) (hs : Heap.SameBut Lg s₄.heap h₅) :
    IsEnum h₅ (it + 1) it i old ∧ h₅.IsStrIter it (strIterType x) x tx i ∧ OnlyG [Lg, it, it + 1] s₀ { s₄ with heap := h₅, toks := tk } ∧ G.StaysIn h₅ := by
  refine ⟨(hs.2 _ (Nat.ne_of_gt (Nat.lt_succ_of_lt hlt))).trans he, hi.extBut hs.extBut (Nat.ne_of_gt hlt), hon.trans ⟨h₅, tk, rfl, fun a o ha e => (hs.2 a fun q => ha (by rw [q]; exact .head _)).trans e⟩, fun a o e => (hs.2 a fun q => ?_).trans (hGs a o e)⟩
  have := Heap.lt_size e
  rw [q] at this
  exact Nat.lt_irrefl _ (Nat.lt_of_lt_of_le this hG)
end Mine
end

section
open PySem PySem.W PySem.Spec PySem.Calls PyProof.Rows PyProof.Rows.LCg
set_option Elab.async false
set_option maxRecDepth 100000
namespace Mine
abbrev ownOf (Lg : Addr) (h : Heap) : List Addr := [Lg, h.objs.size, h.objs.size + 1]
inductive GenPost (w : World) (G : Heap) (x : Str) (s : Shared) (v : Value) (s' : Shared) : Prop
  | mk : ∀ h' tk' gs, s' = { s with heap := h', toks := tk', gens := s.gens.push gs } → (∀ a o, s.heap.get? a = some o → h'.get? a = some o) → v = .ref (s.heap.objs.size + 1) → h'.IsGen (s.heap.objs.size + 1) s.gens.size → (∃ oL, h'.get? s.heap.objs.size = some oL) → (∀ (A' : Around) (s₂ : Shared), A'.handled = none → SameG [s.heap.objs.size] G s' s₂ → gs.Goes (MD w) A' (RG (ownOf s.heap.objs.size s₂.heap)) (YG (ownOf s.heap.objs.size s₂.heap) G (runE 0 false x.cps.toList)) (runE 0 false x.cps.toList).length (.send .none) s₂) → GenPost w G x s v s'
section
variable {w : World} {mean : ExcName → Option Value} {mg mb : Str → Option Value}
theorem kw_G3_1 : True := by
  k_with_none
  k_with "storeName" => (k_here; refine Hold.out ?_)
  k_with "call type:enumerate" => (k_here; refine Hold.out ?_)
  trivial
set_option maxHeartbeats 4000000 in
theorem gen_spec {A : Around} {s : Shared} {G : Heap} (X : (hd.heap_39 w.params).In G) (T : Top PV LO mean mg mb G) (st : G.StaysIn s.heap) (hG : G.objs.size ≤ s.heap.objs.size) (hd : A.depth + 1 < recursionLimit) (x : Str) (tx : Tok) (hasc : x.cps.all (· < 128) = true) (hsz : x.cps.size ≤ 20000)
    (hend : endE false x.cps.toList = false) : wpAny (MD w) A (call (.ref 62) [.str x tx]) (GenPost w G x s) NE s := by
  k_dflt (refine' enterGen (binds := [(Str.ofString "addr", .str x tx)]) ?X ?T ?st ?ho ?hcd ?hroom ?hbind ?hloc ?hcell ?hco ?hgen ?hk ?h; (case X => assumption); (case T => assumption); (case st => assumption); (case ho => k_is); (case hcd => k_is); (case hroom => lia); (case hbind => exact rfl); (case hloc => exact locs rfl); (case hcell => decide); (case hco => exact rfl); (case hgen => exact rfl); (case hk => exact rfl))
  intro h' hns hig hz hkeep tk
  have hLo : ∃ oL, h'.get? s.heap.objs.size = some oL := by obtain ⟨o, _, _, ho, _⟩ := hns; exact ⟨o, ho⟩
  refine ⟨h', tk, _, rfl, hkeep, rfl, hig, hLo, fun A' s₂ hA' hsame => ⟨rfl, seg_func ?_⟩⟩
  generalize hLg : s.heap.objs.size = Lg at *
  have hns2 : s₂.heap.Ns Lg (fun y => [(Str.ofString "addr", Value.str x tx)].reverse.lookup y) := by
    obtain ⟨o, es, ep, ho, r⟩ := hns
    exact ⟨o, es, ep, (hsame.1 Lg (.head _)).trans ho, r⟩
  have F : Fr G Lg s₂.heap (fun y => [(Str.ofString "addr", Value.str x tx)].reverse.lookup y) := ⟨hns2, hsame.2, hG⟩
  have N : News G Lg s₂.heap (restOf s₂.heap (ownOf Lg s₂.heap) G) := fun p hp => by
    obtain ⟨a, b, c⟩ := mem_restOf.mp hp
    exact ⟨c, fun q => a (by rw [q]; exact .head _), b⟩
  refine seg_execs_cons (seg_stmt ?_)
  k_steps
  refine Hold.mk ?_
  refine wpAny_storeName_local rfl hns2 (fun h₃ hn₃ hs₃ => ?_) rfl
  replace hs₃ : Heap.SameBut Lg s₂.heap h₃ := hs₃
  have F3 := F.set hn₃ hs₃
  have N3 := N.set hs₃
  refine seg_execs_cons (seg_stmt ?_)
  k_steps
  refine Hold.mk ?_
  refine wpAny_storeName_local rfl hn₃ (fun h₄ hn₄ hs₄ => ?_) rfl
  replace hs₄ : Heap.SameBut Lg h₃ h₄ := hs₄
  have F4 := F3.set hn₄ hs₄
  have N4 := N3.set hs₄
  have hz4 : h₄.objs.size = s₂.heap.objs.size := by rw [hs₄.1, hs₃.1]
  clear F3 N3
  refine seg_execs_cons (seg_For ?_)
  k_steps
  refine Hold.mk ?_
  refine call_enumerate_str fun h₅ he₅ hi₅ hz₅ hk₅ => ?_
  refine wpAny_pyIter_enum he₅ ?_
  intro p
  dsimp only at he₅ hi₅ hz₅ hk₅
  have hit : Lg < s₂.heap.objs.size := hns2.lt
  rw [hz4] at he₅ hi₅ hz₅
  rw [hz4]
  generalize hsp : runE 0 false x.cps.toList = sp at *
  rw [show ownOf Lg s₂.heap = [Lg, s₂.heap.objs.size, s₂.heap.objs.size + 1] from rfl] at N4 ⊢
  generalize s₂.heap.objs.size = it at *
  refine seg_forLoop_ind (GI x tx G Lg it (it + 1) sp) ?turn x.cps.size _ _ _ ?I0
  case I0 =>
    refine ⟨0, false, _, .none, rfl, Nat.zero_le _, F4.ns.at' fun o e => hk₅ _ o e, rfl, he₅, hi₅, ?_, fun b o e => hk₅ b o (F4.keep b o e), ?_, Nat.le_refl _, hend⟩
    · refine ⟨h₅, _, rfl, fun a o ha e => ?_⟩
      cases q : G.get? a with
      | some o' =>
        have := hsame.2 a o' q
        rw [e] at this; cases this
        exact hk₅ _ _ (F4.keep _ _ q)
      | none => exact hk₅ _ _ (N4 (a, o) (mem_restOf.mpr ⟨ha, q, e⟩)).1
    · rw [Nat.sub_self]; exact hsp
  case turn =>
    intro k n s₀ s₃ zzJ IH
    generalize hA2 : A'.over _ _ = A2
    refine hidden fun zzG zzH => ?_
    obtain ⟨i, esc, m, old, rfl, hi, hm, hesc, hen, hst, hon, hGs, hrun, hn, hee⟩ := zzJ
    have hty : strIterType x = "str_ascii_iterator" := by unfold strIterType; rw [if_pos hasc]
    rw [hty] at hst
    have hA2h : A2.in1.handled = none := by rw [← hA2]; exact hA'
    have D := Draws.strAscii (prog := PySem.Challenge.pw_tc0001_01) (w := w) (A := A2.in1) hA2h it x tx
    have hLlt : Lg < it := hit
    have hee1 : it + 1 ≠ it := Nat.succ_ne_self it
    by_cases hlt : i < x.cps.size
    · refine zzH ?_
      clear zzH zzG
      refine wpAny_pyNext_enum_itemD D hen hst hlt hee1 (by simp) (fun ch h₆ tk₆ hP hout hst6 htup6 hz6 hk6 => ?_)
      refine wpAny_letOwnedTupleGo_enum hout (fun h₇ hen7 hs7 => ?_)
      replace hs7 : Heap.SameBut (it + 1) h₆ h₇ := hs7
      obtain ⟨c, uc, hc, rfl⟩ := hP
      have hel : it + 1 < s₃.heap.objs.size := Heap.lt_size hen
      have hitl : it < s₃.heap.objs.size := Nat.lt_of_succ_lt hel
      have hLg1 : Lg ≠ it + 1 := Nat.ne_of_lt (Nat.lt_succ_of_lt hLlt)
      have hLg2 : Lg ≠ it := Nat.ne_of_lt hLlt
      have hGn : ∀ a, Lg ≤ a → G.get? a = none := fun a ha => by
        cases q : G.get? a with
        | none => rfl
        | some o => exact absurd (Heap.lt_size q) (Nat.not_lt.mpr (Nat.le_trans hG ha))
      have hup : ∀ b o, b ≠ it + 1 → b ≠ it → s₃.heap.get? b = some o → h₇.get? b = some o := fun b o h1 h2 e => (hs7.2 b h1).trans (hk6 b o h1 h2 e)
      have F7 : Fr G Lg h₇ m := ⟨hm.at' fun o e => hup Lg o hLg1 hLg2 e, fun b o e => hup b o (fun q => by rw [q, hGn _ (Nat.le_of_lt (Nat.lt_succ_of_lt hLlt))] at e; cases e) (fun q => by rw [q, hGn _ (Nat.le_of_lt hLlt)] at e; cases e) (hGs b o e), hG⟩
      obtain ⟨oi, hoi, roi⟩ := id hst6
      have hoi7 : h₇.get? it = some oi := (hs7.2 it (Nat.ne_of_lt (Nat.lt_succ_self it))).trans hoi
      have hT7 : h₇.get? s₃.heap.objs.size = some { cls := .type "tuple", data := .seq [Value.int (i : Nat) tk₆, .str ⟨#[c]⟩ uc].toArray } := (hs7.2 _ (Nat.ne_of_gt hel)).trans htup6
      have N7 : News G Lg h₇ ((s₃.heap.objs.size, { cls := .type "tuple", data := .seq [Value.int (i : Nat) tk₆, .str ⟨#[c]⟩ uc].toArray }) :: (it, oi) :: (it + 1, _) :: restOf s₃.heap [Lg, it, it + 1] G) := fun p hp => by
        rcases List.mem_cons.mp hp with rfl | hp
        · exact ⟨hT7, Nat.ne_of_gt (Nat.lt_trans hLlt hitl), hGn _ (Nat.le_of_lt (Nat.lt_trans hLlt hitl))⟩
        · rcases List.mem_cons.mp hp with rfl | hp
          · exact ⟨hoi7, Ne.symm hLg2, hGn _ (Nat.le_of_lt hLlt)⟩
          · rcases List.mem_cons.mp hp with rfl | hp
            · exact ⟨hen7, Ne.symm hLg1, hGn _ (Nat.le_of_lt (Nat.lt_succ_of_lt hLlt))⟩
            · obtain ⟨a1, a2, a3⟩ := mem_restOf.mp hp
              exact ⟨hup _ _ (fun q => a1 (by simp [q])) (fun q => a1 (by simp [q])) a3, fun q => a1 (by simp [q]), a2⟩
      have hA2' : A2.handled = none := hA2h
      refine unpackN_ (items := [Value.int (i : Nat) tk₆, .str ⟨#[c]⟩ uc].toArray) F7 N7 (News.isTup N7 (.head _)) hA2' rfl rfl (fun h₈ F8 N8 => ?_)
      clear F7 N7
      show wpAny _ A2 (do holding [.str ⟨#[c]⟩ uc] (assign (.Name _ _) _ (.int (i : Nat) tk₆)); do holding [] (assign (.Name _ _) _ (.str ⟨#[c]⟩ uc)); pure ()) _ _ _
      refine wpAny_bind (wpAny_holding (wpAny_assign_Name (wpAny_storeName_local rfl F8.ns (fun h₉ hn9 hs9 => ?_) rfl)))
      replace hs9 : Heap.SameBut Lg h₈ h₉ := hs9
      have F9 := F8.set hn9 hs9
      have N9 := N8.set hs9
      refine wpAny_bind (wpAny_holding (wpAny_assign_Name (wpAny_storeName_local rfl hn9 (fun ha hna hsa => wpAny_pure ?_) rfl)))
      replace hsa : Heap.SameBut Lg h₉ ha := hsa
      have Fa := F9.set hna hsa
      have Na := N9.set hsa
      clear F8 N8 F9 N9
      rw [norm1 hesc] at Fa
      have hcl : x.cps.toList.drop i = c :: x.cps.toList.drop (i + 1) := by
        rw [List.drop_eq_getElem_cons (by simpa using hlt)]
        congr 1
        have := hc
        rw [Array.getElem?_eq_getElem hlt] at this
        simpa using Option.some.inj this
      rw [hcl] at hrun hee
      refine seg_execs_cons (seg_If ?_)
      cases esc with
      | true =>
        k_steps
        obtain ⟨n, rfl⟩ : ∃ n', n = n' + 1 := by
          cases n with
          | zero => rw [Nat.sub_zero, List.drop_length] at hrun; cases hrun
          | succ n' => exact ⟨n', rfl⟩
        refine seg_execs_cons (seg_Expr_Yield rfl rfl rfl ?_)
        rw [hA2]
        refine wpAny_mono (E := NE) ?yv (fun _ _ q => q) fun _ _ q => q.elim
        k_steps
        (rename Fr _ _ _ _ => Fb)
        (rename News _ _ _ _ => Nb)
        rw [runE] at hrun
        obtain ⟨hsp1, hsp2⟩ := drop_head hrun
        rw [show sp.length - (n + 1) + 1 = sp.length - n by lia] at hsp2
        rw [endE] at hee
        (rename _ < _ ∧ _ => hl1)
        (rename Addr => D1)
        have hnew := new_tup (Ne.symm (Nb _ (.head _)).2.1) hl1.2.1 hl1.2.2.1 hl1.2.2.2 (Nb _ (.head _)).2.2 hon
        refine ⟨(i, [92, c]), D1, _, _, hsp1, hn, hon.trans (onlyG_of hGs Fb Nb (fun p hp => .tail _ (.tail _ (.tail _ (.tail _ hp))))), rfl, hnew.2, hnew.1, by rw [← bs_cons]; exact News.isTup Nb (.head _), (fun a ha => by
          simp only [List.mem_cons, List.not_mem_nil, or_false] at ha
          rcases ha with ha | ha | ha
          · rw [ha]; obtain ⟨o, _, _, ho, _⟩ := Fb.ns; exact ⟨o, ho⟩
          · rw [ha]; exact ⟨_, (Nb (it, oi) (.tail _ (.tail _ (.head _)))).1⟩
          · rw [ha]; exact ⟨_, (Nb (it + 1, _) (.tail _ (.tail _ (.tail _ (.head _))))).1⟩), fun s₄ hs4 => ?_⟩
        (rename ∀ (x : Value) (s'' : Shared), _ => hkap)
        refine hkap .none s₄ ?_
        obtain ⟨ri1, ri2⟩ := roi
        have hwk := woken (x := x) (tx := tx) rfl hs4 Fb.ns (Nb (it + 1, _) (.tail _ (.tail _ (.tail _ (.head _))))).1 (Nb (it, oi) (.tail _ (.tail _ (.head _)))).1 (by rw [hty]; exact ri1) ri2
        refine seg_execs_cons (seg_stmt ?_)
        k_steps
        refine Hold.mk ?_
        refine wpAny_storeName_local rfl hwk.1 (fun hb hnb hsb => ?_) rfl
        replace hsb : Heap.SameBut Lg s₄.heap hb := hsb
        obtain ⟨y1, y2, y3, y4⟩ := after_store (tk := s₄.toks + 1) hG hLlt (show OnlyG [Lg, it, it + 1] s₄ s₄ from ⟨_, _, rfl, fun _ _ _ e => e⟩) hs4.2 hwk.2.1 hwk.2.2 hsb
        refine seg_execs_nil (seg_again rfl (IH _ n s₄ _ ?_ ⟨i + 1, false, _, _, rfl, hlt, hnb, rfl, y1, y2, y3, y4, hsp2, by lia, hee⟩))
        lia
      | false =>
        k_steps
        refine seg_execs_cons (seg_If ?_)
        rw [hA2]
        by_cases h92 : c = 92
        · have hq : ((⟨#[c]⟩ : Str) == Str.ofString "\\") = true := by rw [h92]; decide +kernel
          k_steps
          obtain ⟨ri1, ri2⟩ := roi
          rw [h92, runE, if_pos rfl] at hrun
          rw [h92, endE] at hee
          refine seg_execs_cons (seg_stmt ?_)
          k_steps
          refine Hold.mk ?_
          refine wpAny_storeName_local rfl Fa.ns (fun hb hnb hsb => ?_) rfl
          replace hsb : Heap.SameBut Lg ha hb := hsb
          obtain ⟨y1, y2, y3, y4⟩ := after_store (x := x) (tx := tx) (s₀ := s₀) (it := it) (i := i + 1) hG hLlt (hon.trans (onlyG_of hGs Fa Na (fun p hp => .tail _ (.tail _ (.tail _ hp))))) Fa.keep (Na (it + 1, _) (.tail _ (.tail _ (.head _)))).1 ⟨oi, (Na (it, oi) (.tail _ (.head _))).1, by rw [hty]; exact ri1, ri2⟩ hsb
          refine seg_execs_nil (seg_again rfl (IH _ n s₀ _ ?_ ⟨i + 1, true, _, _, rfl, hlt, hnb, rfl, y1, y2, y3, y4, hrun, hn, hee⟩))
          lia
        · have hq : ((⟨#[c]⟩ : Str) == Str.ofString "\\") = false := by
            rw [beq_eq_false_iff_ne]
            intro e
            have e2 := congrArg (fun z : Str => z.cps.toList) e
            rw [show (Str.ofString "\\") = (⟨#[92]⟩ : Str) by decide +kernel] at e2
            exact h92 (by simpa using e2)
          k_steps
          obtain ⟨n, rfl⟩ : ∃ n', n = n' + 1 := by
            cases n with
            | zero => rw [Nat.sub_zero, List.drop_length, runE, if_neg h92] at hrun; cases hrun
            | succ n' => exact ⟨n', rfl⟩
          refine seg_execs_cons (seg_Expr_Yield rfl rfl rfl ?_)
          rw [hA2]
          refine wpAny_mono (E := NE) ?yw (fun _ _ q => q) fun _ _ q => q.elim
          k_steps
          (rename Fr _ _ _ _ => Fb)
          (rename News _ _ _ _ => Nb)
          rw [runE, if_neg h92] at hrun
          obtain ⟨hsp1, hsp2⟩ := drop_head hrun
          rw [show sp.length - (n + 1) + 1 = sp.length - n by lia] at hsp2
          rw [endE, beq_eq_false_iff_ne.mpr h92] at hee
          (rename _ < _ ∧ _ => hl1)
          (rename Addr => D1)
          have hnew := new_tup (Ne.symm (Nb _ (.head _)).2.1) hl1.2.1 hl1.2.2.1 hl1.2.2.2 (Nb _ (.head _)).2.2 hon
          refine ⟨(i, [c]), D1, _, _, hsp1, hn, hon.trans (onlyG_of hGs Fb Nb (fun p hp => .tail _ (.tail _ (.tail _ (.tail _ hp))))), rfl, hnew.2, hnew.1, News.isTup Nb (.head _), (fun a ha => by
            simp only [List.mem_cons, List.not_mem_nil, or_false] at ha
            rcases ha with ha | ha | ha
            · rw [ha]; obtain ⟨o, _, _, ho, _⟩ := Fb.ns; exact ⟨o, ho⟩
            · rw [ha]; exact ⟨_, (Nb (it, oi) (.tail _ (.tail _ (.head _)))).1⟩
            · rw [ha]; exact ⟨_, (Nb (it + 1, _) (.tail _ (.tail _ (.tail _ (.head _))))).1⟩), fun s₄ hs4 => ?_⟩
          (rename ∀ (x : Value) (s'' : Shared), _ => hkap)
          refine hkap .none s₄ ?_
          obtain ⟨ri1, ri2⟩ := roi
          have hwk := woken (x := x) (tx := tx) rfl hs4 Fb.ns (Nb (it + 1, _) (.tail _ (.tail _ (.tail _ (.head _))))).1 (Nb (it, oi) (.tail _ (.tail _ (.head _)))).1 (by rw [hty]; exact ri1) ri2
          refine seg_execs_nil (seg_again rfl (IH _ n s₄ _ ?_ ⟨i + 1, false, _, _, rfl, hlt, hwk.1, rfl, hwk.2.1, hwk.2.2, ⟨_, _, rfl, fun _ _ _ e => e⟩, hs4.2, hsp2, by lia, hee⟩))
          lia
    · have hie : i = x.cps.size := by lia
      subst hie
      rw [List.drop_eq_nil_of_le (by simp)] at hrun hee
      rw [runE] at hrun
      have hn0 : n = 0 := by
        have := congrArg List.length hrun
        rw [List.length_drop, List.length_nil] at this
        lia
      subst hn0
      cases esc with
      | true => cases hee
      | false =>
      refine zzH ?_
      clear zzH zzG
      refine wpAny_pyNext_enum_endD D hen hst (fun h₆ hx6 => ?_)
      have hLg2 : Lg ≠ it := Nat.ne_of_lt hLlt
      have hGn : ∀ a, Lg ≤ a → G.get? a = none := fun a ha => by
        cases q : G.get? a with
        | none => rfl
        | some o => exact absurd (Heap.lt_size q) (Nat.not_lt.mpr (Nat.le_trans hG ha))
      have F6 : Fr G Lg h₆ m := ⟨hm.at' fun o e => hx6 Lg o hLg2 e, fun b o e => hx6 b o (fun q => by rw [q, hGn _ (Nat.le_of_lt hLlt)] at e; cases e) (hGs b o e), hG⟩
      rw [norm1 hesc] at F6
      have N6 : News G Lg h₆ [] := fun p hp => by cases hp
      show Seg _ _ _ _ _ _ _ _ _ _
      refine seg_execs_cons (seg_If ?_)
      k_steps
      refine seg_execs_nil (seg_execs_nil (seg_end (.ok (.ret .none)) ⟨rfl, rfl, hon.trans ⟨h₆, _, rfl, fun a o ha e => hx6 a o (fun q => ha (by simp [q])) e⟩⟩))
end
theorem kw_G3_z : True := by
  k_with_none
  trivial
end Mine
end

section
open PySem PySem.W PySem.Spec PySem.Calls PyProof.Rows PyProof.Rows.LCg
set_option Elab.async false
set_option maxRecDepth 100000
namespace Mine
def Bare (g : Array GenState) : Prop := ∀ (k : Nat) (y : GenState), g[k]? = some y → y.bare = true
def GenStep (g : Heap) (L : Addr) (s : Shared) (gens₁ : Array GenState) (J : Nat → (Str → Option Value) → List (Addr × Obj) → Prop) (ownl : List (Addr × Obj)) (Lg : Addr) (Q : Flow → Shared → Prop) (j : Nat) (f : Flow) (s₃ : Shared) : Prop :=
  match f with
  | .next | .cont => ∃ h' tk m₂ ld₂, s₃ = { s with heap := h', toks := tk, gens := gens₁ } ∧ Fr g L h' m₂ ∧ News g L h' (ld₂ ++ ownl) ∧ (∀ p ∈ ld₂, @LT.lt Nat _ p.1 Lg) ∧ J (j + 1) m₂ ld₂
  | .brk => Q .next s₃
  | .ret v => Q (.ret v) s₃
section
variable {prog : Program} {w : World} {A : Around} {s : Shared} {env : Env} {Q : Flow → Shared → Prop} {g : Heap} {L : Addr}
/-- a for over a generator of ours, by an invariant -/
theorem setGen_at {gg : Array GenState} {gi : Nat} {gs : GenState} (e : gg[gi]? = some gs) (gs' : GenState) : (gg.setIfInBounds gi gs')[gi]? = some gs' := by
  have : gi < gg.size := by
    by_cases q : gi < gg.size
    · exact q
    · rw [Array.getElem?_eq_none (by omega)] at e; cases e
  simp [this]
theorem setGen_ne {gg : Array GenState} {gi k : Nat} (h : k ≠ gi) (x : GenState) : (gg.setIfInBounds gi x)[k]? = gg[k]? := by
  rw [Array.getElem?_setIfInBounds_ne (Ne.symm h)]
theorem go_gen {elts : List Expr} {k0 : Nat} {pt : Pos} {a gi : Nat} {v : Value} {Q : Unit → Shared → Prop} {E : Value → Shared → Prop} (h : s.heap.IsGen a gi) (hQ : Q () s) : wpAny (model prog w) A (letOwnedTupleGo (.Tuple elts k0 pt) (.ref a) v) Q E s := by
  cases v with
  | ref b =>
    obtain ⟨⟨cls, dd, data, sl⟩, nm, qn, ho, hc, hd, hs⟩ := h
    simp only at hc hd hs
    subst hc hd hs
    unfold letOwnedTupleGo
    refine wpAny_bind (wpAny_load ho ?_)
    show wpAny _ A (if (["enumerate", "zip", "dict_itemiterator", "dict_reverseitemiterator", "odict_iterator", "itertools.zip_longest", "itertools.pairwise"].contains "generator" && _) = true then _ else _) Q E s
    rw [if_neg (by simp)]
    exact wpAny_pure hQ
  | _ => exact wpAny_pure hQ
theorem loop_gen {xp xc : Str} {pp pc pt : Pos} {k0 : Nat} {body : List Stmt} {a Lg it : Addr} {gi : Nat} {gs : GenState} {sp : List (Nat × List Nat)} {m : Str → Option Value} {ld : List (Addr × Obj)} (J : Nat → (Str → Option Value) → List (Addr × Obj) → Prop)
    (hh : A.handled = none) (hroom : A.depth < recursionLimit) (hl : g.NoLimit) (hkp : env.kindOf xp = some .local) (hkc : env.kindOf xc = some .local) (hlo : env.locals = L) (hcls : (env.scope.kind == .class || (env.scope.kind == .module && env.locals != env.globals)) = false)
    (F : Fr g L s.heap m) (N : News g L s.heap ld) (hJ : J 0 m ld) (hld : ∀ p ∈ ld, @LT.lt Nat _ p.1 Lg) (hLLg : @LT.lt Nat _ L Lg) (hLa : @LE.le Nat _ Lg a) (hLo : ∃ o, s.heap.get? Lg = some o) (hit : @LT.lt Nat _ Lg it)
    (hig : s.heap.IsGen a gi) (hagi : a ∉ [Lg, it, it + 1]) (hgs : s.gens[gi]? = some gs)
    (hgo : ∀ (s₂ : Shared), s₂.heap = s.heap → gs.Goes (model prog w) A.in1 (RG [Lg, it, it + 1]) (YG [Lg, it, it + 1] g sp) sp.length (.send .none) s₂)
    (turn : ∀ j pr m₁ ld₁ ownl tp tc gens₁ h₁ tk₁, sp[j]? = some pr → J j m₁ ld₁ → (∀ p ∈ ld₁, @LT.lt Nat _ p.1 Lg) → (∀ p ∈ ownl, @LE.le Nat _ Lg p.1) → Fr g L h₁ (fun y => if y = xc then some (.str (strL pr.2) tc) else if y = xp then some (.int (pr.1 : Nat) tp) else m₁ y) → News g L h₁ (ld₁ ++ ownl) →
      wpAny (model prog w) A (execs body env) (GenStep g L s gens₁ J ownl Lg Q j) NE { s with heap := h₁, toks := tk₁, gens := gens₁ })
    (done : ∀ m₁ ld₁ h₁ tk₁ gens₁, (∀ k, k ≠ gi → gens₁[k]? = s.gens[k]?) → gens₁[gi]? = some GenState.finished → J sp.length m₁ ld₁ → Fr g L h₁ m₁ → News g L h₁ ld₁ → Q .next { s with heap := h₁, toks := tk₁, gens := gens₁ }) :
    codeAny (model prog w) A (.forLoop (.Tuple [.Name xp pp, .Name xc pc] k0 pt) (.ref a) body [] env) (fun r s' => match r with | .ok f => Q f s' | .error e => cameBackBy (model prog w) A env NE e s') s := by
  subst hlo
  have hgL : ∀ b, @LE.le Nat _ Lg b → g.get? b = none ∧ b ≠ env.locals := fun b hb => by
    refine ⟨?_, fun q => ?_⟩
    · cases q : g.get? b with
      | none => rfl
      | some o => exact absurd (Heap.lt_size q) (Nat.not_lt.mpr (Nat.le_trans (Nat.le_trans F.above (Nat.le_of_lt hLLg)) hb))
    · rw [q] at hb; exact absurd hLLg (Nat.not_lt.mpr hb)
  have hown : ∀ b ∈ [Lg, it, it + 1], @LE.le Nat _ Lg b := fun b hb => by
    simp only [List.mem_cons, List.not_mem_nil, or_false] at hb
    rcases hb with rfl | rfl | rfl
    · exact Nat.le_refl _
    · exact Nat.le_of_lt hit
    · exact Nat.le_of_lt (Nat.lt_succ_of_lt hit)
  obtain ⟨oa, nm, qn, hoa, roa⟩ := id hig
  refine codeAny_forLoop_any (fun n s' => ∃ j m₁ ld₁ ownl h₁ tk₁ gg gs', n = sp.length - j ∧ j ≤ sp.length ∧ s' = { s with heap := h₁, toks := tk₁, gens := gg } ∧ J j m₁ ld₁ ∧ Fr g env.locals h₁ m₁ ∧ News g env.locals h₁ (ld₁ ++ ownl) ∧ (∀ p ∈ ld₁, @LT.lt Nat _ p.1 Lg) ∧ (∀ p ∈ ownl, @LE.le Nat _ Lg p.1) ∧
    (a, oa) ∈ ownl ∧ gg[gi]? = some gs' ∧ (∀ k, k ≠ gi → gg[k]? = s.gens[k]?) ∧ ∀ (s₂ : Shared), s₂.heap = h₁ → gs'.Goes (model prog w) A.in1 (RG [Lg, it, it + 1]) (YG [Lg, it, it + 1] g sp) (sp.length - j) (.send .none) s₂) ?_ sp.length ?_
  · rintro n s' ⟨j, m₁, ld₁, ownl, h₁, tk₁, gg, gs', rfl, hj, rfl, hJ₁, F₁, N₁, hb1, hb2, hma, hgg, hall, hgo₁⟩
    have hia : h₁.IsGen a gi := ⟨oa, nm, qn, (N₁ _ (List.mem_append_right _ hma)).1, roa⟩
    refine wpAny_pyNext_gen (n := sp.length - j) (P := fun n s₀ s₁ => n = 0 ∧ OnlyG [Lg, it, it + 1] s₀ s₁) (Y := YG [Lg, it, it + 1] g sp) hh (hl.keeps F₁.keep) hroom hia hgg (hgo₁ _ rfl) ?_ ?_
    · rintro v s₁ gs₂ ⟨pr, t, tp, tc, hpr, hle, ⟨h₂, tk₂, rfl, hk₂⟩, rfl, hfr, hno, htup, hex, hkap⟩
      have hjn : sp.length - j ≠ 0 := fun q => by
        have hG2 : g.StaysIn h₂ := fun b o e => hk₂ b o (fun z => by rw [(hgL _ (hown _ z)).1] at e; cases e) (F₁.keep b o e)
        have := hkap _ ⟨fun _ _ => rfl, hG2⟩
        rw [q] at this
        exact this
      obtain ⟨q, hq⟩ : ∃ q, sp.length - j = q + 1 := ⟨sp.length - j - 1, by omega⟩
      rw [hq] at hpr hle hkap
      simp only [Nat.add_sub_cancel] at hpr hle hkap
      have hjj : sp.length - (q + 1) = j := by omega
      rw [hjj] at hpr
      have hF2 : Fr g env.locals h₂ m₁ := ⟨F₁.ns.at' fun o e => hk₂ _ o (fun z => (hgL _ (hown _ z)).2 rfl) e, fun b o e => hk₂ b o (fun z => by rw [(hgL _ (hown _ z)).1] at e; cases e) (F₁.keep b o e), F₁.above⟩
      have hoa2 : h₂.get? a = some oa := hk₂ a oa hagi (N₁ _ (List.mem_append_right _ hma)).1
      obtain ⟨o1, ho1⟩ := hex Lg (.head _)
      obtain ⟨o2, ho2⟩ := hex it (.tail _ (.head _))
      obtain ⟨o3, ho3⟩ := hex (it + 1) (.tail _ (.tail _ (.head _)))
      have hb3 : ∀ p ∈ [(Lg, o1), (it, o2), (it + 1, o3), (a, oa)], @LE.le Nat _ Lg p.1 := fun p hp => by
        simp only [List.mem_cons, List.not_mem_nil, or_false] at hp
        rcases hp with rfl | rfl | rfl | rfl
        · exact Nat.le_refl _
        · exact Nat.le_of_lt hit
        · exact Nat.le_of_lt (Nat.lt_succ_of_lt hit)
        · exact hLa
      have hat3 : ∀ p ∈ [(Lg, o1), (it, o2), (it + 1, o3), (a, oa)], h₂.get? p.1 = some p.2 := fun p hp => by
        simp only [List.mem_cons, List.not_mem_nil, or_false] at hp
        rcases hp with rfl | rfl | rfl | rfl
        · exact ho1
        · exact ho2
        · exact ho3
        · exact hoa2
      have hN2 : News g env.locals h₂ (ld₁ ++ [(Lg, o1), (it, o2), (it + 1, o3), (a, oa)]) := fun p hp => by
        rcases List.mem_append.mp hp with hp | hp
        · exact ⟨hk₂ _ _ (fun z => Nat.lt_irrefl _ (Nat.lt_of_lt_of_le (hb1 p hp) (hown _ z))) (N₁ p (List.mem_append_left _ hp)).1, (N₁ p (List.mem_append_left _ hp)).2⟩
        · exact ⟨hat3 p hp, (hgL _ (hb3 p hp)).2, (hgL _ (hb3 p hp)).1⟩
      refine go_gen ⟨oa, nm, qn, hoa2, roa⟩ ?_
      refine unpackN_ (items := [Value.int (pr.1 : Nat) tp, .str (strL pr.2) tc].toArray) hF2 hN2 htup hh rfl rfl (fun h₈ F8 N8 => ?_)
      show wpAny _ A (do holding [.str (strL pr.2) tc] (assign (.Name xp pp) env (.int (pr.1 : Nat) tp)); do holding [] (assign (.Name xc pc) env (.str (strL pr.2) tc)); pure ()) _ _ _
      refine wpAny_bind (wpAny_holding (wpAny_assign_Name (wpAny_storeName_local hkp F8.ns (fun h₉ hn9 hs9 => ?_) hcls)))
      replace hs9 : Heap.SameBut env.locals h₈ h₉ := hs9
      have F9 := F8.set hn9 hs9
      have N9 := N8.set hs9
      refine wpAny_bind (wpAny_holding (wpAny_assign_Name (wpAny_storeName_local hkc hn9 (fun ha hna hsa => wpAny_pure ?_) hcls)))
      replace hsa : Heap.SameBut env.locals h₉ ha := hsa
      have Fa := F9.set hna hsa
      have Na := N9.set hsa
      refine wpAny_mono (turn j pr m₁ ld₁ [(Lg, o1), (it, o2), (it + 1, o3), (a, oa)] tp tc _ ha _ hpr hJ₁ hb1 hb3 Fa Na) (fun f s₃ q₃ => ?_) fun _ _ y => y.elim
      cases f with
      | next =>
        obtain ⟨h', tk', m₂, ld₂, rfl, F₂, N₂, hb, hJ₂⟩ := q₃
        refine ⟨sp.length - (j + 1), by omega, j + 1, m₂, ld₂, _, h', tk', _, gs₂, rfl, by omega, rfl, hJ₂, F₂, N₂, hb, hb3, .tail _ (.tail _ (.tail _ (.head _))), ?_, fun k hk => (setGen_ne hk _).trans ((setGen_ne hk _).trans (hall k hk)), fun s₂ e => ?_⟩
        · exact setGen_at (setGen_at hgg _) _
        · rw [show sp.length - (j + 1) = q by omega]
          exact hkap s₂ ⟨fun b hb => by
            obtain ⟨o, ho⟩ := hex b hb
            have hm : (b, o) ∈ [(Lg, o1), (it, o2), (it + 1, o3), (a, oa)] := by
              simp only [List.mem_cons, List.not_mem_nil, or_false] at hb
              rcases hb with rfl | rfl | rfl
              · rw [ho1] at ho; cases ho; exact .head _
              · rw [ho2] at ho; cases ho; exact .tail _ (.head _)
              · rw [ho3] at ho; cases ho; exact .tail _ (.tail _ (.head _))
            rw [e, (N₂ (b, o) (List.mem_append_right _ hm)).1]; exact ho.symm, fun b o z => by rw [e]; exact F₂.keep b o z⟩
      | cont =>
        obtain ⟨h', tk', m₂, ld₂, rfl, F₂, N₂, hb, hJ₂⟩ := q₃
        refine ⟨sp.length - (j + 1), by omega, j + 1, m₂, ld₂, _, h', tk', _, gs₂, rfl, by omega, rfl, hJ₂, F₂, N₂, hb, hb3, .tail _ (.tail _ (.tail _ (.head _))), ?_, fun k hk => (setGen_ne hk _).trans ((setGen_ne hk _).trans (hall k hk)), fun s₂ e => ?_⟩
        · exact setGen_at (setGen_at hgg _) _
        · rw [show sp.length - (j + 1) = q by omega]
          exact hkap s₂ ⟨fun b hb => by
            obtain ⟨o, ho⟩ := hex b hb
            have hm : (b, o) ∈ [(Lg, o1), (it, o2), (it + 1, o3), (a, oa)] := by
              simp only [List.mem_cons, List.not_mem_nil, or_false] at hb
              rcases hb with rfl | rfl | rfl
              · rw [ho1] at ho; cases ho; exact .head _
              · rw [ho2] at ho; cases ho; exact .tail _ (.head _)
              · rw [ho3] at ho; cases ho; exact .tail _ (.tail _ (.head _))
            rw [e, (N₂ (b, o) (List.mem_append_right _ hm)).1]; exact ho.symm, fun b o z => by rw [e]; exact F₂.keep b o z⟩
      | brk => exact q₃
      | ret v => exact q₃
    · rintro s₁ ⟨hz, h₂, tk₂, rfl, hk₂⟩ h₃ hk₃
      have hje : j = sp.length := by omega
      subst hje
      refine wpAny_execs_nil ?_
      have hk : ∀ b o, b ∉ [Lg, it, it + 1] → h₁.get? b = some o → h₃.get? b = some o := fun b o hb e => hk₃ b o (hk₂ b o hb e)
      exact done m₁ ld₁ h₃ _ _ (fun k hk => (setGen_ne hk _).trans ((setGen_ne hk _).trans (hall k hk))) (setGen_at (setGen_at hgg _) _) hJ₁ ⟨F₁.ns.at' fun o e => hk _ o (fun z => (hgL _ (hown _ z)).2 rfl) e, fun b o e => hk b o (fun z => by rw [(hgL _ (hown _ z)).1] at e; cases e) (F₁.keep b o e), F₁.above⟩
        fun p hp => ⟨hk _ _ (fun z => Nat.lt_irrefl _ (Nat.lt_of_lt_of_le (hb1 p hp) (hown _ z))) (N₁ p (List.mem_append_left _ hp)).1, (N₁ p (List.mem_append_left _ hp)).2⟩
  · obtain ⟨oL, hoL⟩ := hLo
    refine ⟨0, m, ld, [(a, oa)], s.heap, s.toks, s.gens, gs, rfl, Nat.zero_le _, rfl, hJ, F, fun p hp => ?_, hld, fun p hp => ?_, .head _, hgs, fun _ _ => rfl, fun s₂ h2 => hgo s₂ h2⟩
    · rcases List.mem_append.mp hp with hp | hp
      · exact N p hp
      · rw [List.mem_singleton.mp hp]
        exact ⟨hoa, (hgL a hLa).2, (hgL a hLa).1⟩
    · rw [List.mem_singleton.mp hp]; exact hLa
end
end Mine
end

section
open PySem PySem.W PySem.Spec PySem.Calls PyProof.Rows
open PySem.Builtin PySem.Builtin.Str
set_option Elab.async false
set_option maxRecDepth 100000
namespace Mine
theorem sliceRange_empty (a b : Nat) (h : b ≤ a) : sliceRange (a : Int) (b : Int) 1 = [] := by
  unfold sliceRange
  have hc : (if (1 : Int) > 0 then (if (a : Int) < b then ((b : Int) - a + 1 - 1) / 1 else 0) else (if (a : Int) > b then ((a : Int) - b - 1 - 1) / (-1) else 0)).toNat = 0 := by
    rw [if_pos (by decide), if_neg (by lia)]; rfl
  dsimp only
  rw [hc]; rfl
theorem take_clip {α : Type} (l : List α) (a b : Nat) : (l.drop (min a l.length)).take (min b l.length - min a l.length) = (l.drop a).take (b - a) := by
  by_cases ha : a ≤ l.length
  · rw [Nat.min_eq_left ha, List.take_eq_take_iff, List.length_drop]; lia
  · have e : min a l.length = l.length := by lia
    rw [e, List.drop_length, List.drop_eq_nil_of_le (show l.length ≤ a by lia)]; simp
theorem slice_nat (x : Str) (a b : Nat) : Txt.slice x (some (a : Int)) (some (b : Int)) = strL ((x.cps.toList.drop a).take (b - a)) := by
  have hidx : strSliceIndices (some (a : Int)) (some (b : Int)) 1 x.length = sliceRange ((min a x.length : Nat) : Int) ((min b x.length : Nat) : Int) 1 := by
    unfold strSliceIndices
    have e : ∀ c : Nat, (if (1 : Int) > 0 then max 0 (min (if (c : Int) < 0 then (c : Int) + (x.length : Int) else (c : Int)) (x.length : Int)) else max (-1) (min (if (c : Int) < 0 then (c : Int) + (x.length : Int) else (c : Int)) ((x.length : Int) - 1))) = ((min c x.length : Nat) : Int) := fun c => by
      rw [if_pos (by decide), if_neg (by lia)]; lia
    have e1 := e a
    have e2 := e b
    dsimp only
    rw [e1, e2]
  have hn : x.length = x.cps.toList.length := by show x.cps.size = _; simp
  unfold Txt.slice
  rw [hidx]
  have hf : (fun k : Nat => x.cps[k]?) = fun k => x.cps.toList[k]? := by funext k; simp
  by_cases hab : min a x.length ≤ min b x.length
  · rw [sliceRange_one _ _ hab]
    have hp := StrLaws.picks x.cps.toList (min b x.length - min a x.length) (min a x.length) (by rw [← hn]; lia)
    split
    · rename_i h
      simp only [Bool.and_eq_true, beq_iff_eq, List.length_map, List.length_range] at h
      have h2 := h.2
      have e : (x.cps.toList.drop a).take (b - a) = x.cps.toList := by
        rw [← take_clip, ← hn]
        have e1 : min a x.length = 0 := by lia
        have e2 : min b x.length = x.length := by lia
        rw [e1, e2, List.drop_zero, Nat.sub_zero, hn, List.take_length]
      rw [e]; rfl
    · rw [hf, hp, hn, take_clip]; rfl
  · rw [sliceRange_empty _ _ (by lia)]
    have e : (x.cps.toList.drop a).take (b - a) = [] := by rw [show b - a = 0 by lia, List.take_zero]
    rw [e]
    split
    · rename_i h
      simp only [Bool.and_eq_true, beq_iff_eq, List.length_nil] at h
      have h2 : x.length = 0 := h.2.symm
      lia
    · rfl
end Mine
end

section
open PySem PySem.W PySem.Spec PySem.Calls PyProof.Rows PyProof.Rows.LCg
set_option Elab.async false
set_option maxRecDepth 100000
namespace Mine
/-- what _strip_quoted_realnames gathers from the events -/
def stripE (x : List Nat) : List (Nat × List Nat) → Nat → Option Nat → List (List Nat) → List (List Nat)
  | [], start, _, res => if start < x.length then res ++ [x.drop start] else res
  | (p, t) :: r, start, op, res => if t = [34] then (match op with
      | none => stripE x r start (some p) res
      | some o => stripE x r (p + 1) none (if start ≠ o then res ++ [(x.drop start).take (o - start)] else res)) else stripE x r start op res
def stripT (x : Str) : Str := if 34 ∈ x.cps.toList then strL (stripE x.cps.toList (runE 0 false x.cps.toList) 0 none []).flatten else x
inductive StripPost (x : Str) (s : Shared) (v : Value) (s' : Shared) : Prop
  | mk : ∀ h' tk' gs t, s' = { s with heap := h', toks := tk', gens := gs } → s.heap.StaysIn h' → v = .str (stripT x) t → (Bare s.gens → Bare gs) → StripPost x s v s'
theorem runE_len : ∀ (l : List Nat) (i : Nat) (e : Bool), (runE i e l).length ≤ l.length
  | [], i, e => by unfold runE; simp
  | c :: r, i, true => by
    unfold runE
    have := runE_len r (i + 1) false
    simp only [List.length_cons]; lia
  | c :: r, i, false => by
    unfold runE
    split
    · have := runE_len r (i + 1) true
      simp only [List.length_cons]; lia
    · have := runE_len r (i + 1) false
      simp only [List.length_cons]; lia
theorem stripE_q {x : List Nat} {p : Nat} {r : List (Nat × List Nat)} {start : Nat} {res : List (List Nat)} : stripE x ((p, [34]) :: r) start none res = stripE x r start (some p) res := by
  rw [stripE, if_pos rfl]
theorem stripE_o {x : List Nat} {p : Nat} {r : List (Nat × List Nat)} {start o : Nat} {res : List (List Nat)} : stripE x ((p, [34]) :: r) start (some o) res = stripE x r (p + 1) none (if start ≠ o then res ++ [(x.drop start).take (o - start)] else res) := by
  rw [stripE, if_pos rfl]
theorem stripE_n {x : List Nat} {p : Nat} {t : List Nat} {r : List (Nat × List Nat)} {start : Nat} {op : Option Nat} {res : List (List Nat)} (h : t ≠ [34]) : stripE x ((p, t) :: r) start op res = stripE x r start op res := by
  conv => lhs; unfold stripE
  exact if_neg h
theorem drop_at {α : Type} {sp : List α} {j : Nat} {a : α} (h : sp[j]? = some a) : sp.drop j = a :: sp.drop (j + 1) := by
  have h1 := List.getElem?_eq_some_iff.mp h
  obtain ⟨h2, h3⟩ := h1
  rw [← h3]; exact List.drop_eq_getElem_cons h2
theorem joinE {l : List (List Nat)} {b c : Nat} (h : ∀ r ∈ l, r.length ≤ b) (hl : l.length ≤ c) (hbc : c * b ≤ 16000000) : JoinOk (Str.ofString "") (l.map strL) = true ∧ Txt.join (Str.ofString "") (l.map strL) = strL l.flatten := by
  constructor
  · have hs : ((l.map strL).map (·.length)).sum ≤ l.length * b := by
      clear hl
      induction l with
      | nil => simp
      | cons r q ih =>
        have h1 := h r (.head _)
        have h2 := ih fun x hx => h x (.tail _ hx)
        simp only [List.map_cons, List.sum_cons, List.length_cons]
        have h3 : (strL r).length = r.length := by show r.toArray.size = _; simp
        have h4 : (q.length + 1) * b = q.length * b + b := Nat.succ_mul _ _
        lia
    have h5 : l.length * b ≤ c * b := Nat.mul_le_mul_right b hl
    refine joinOk_of ?_
    have : (Str.ofString "").length = 0 := by decide +kernel
    rw [this]; lia
  · show PySem.Builtin.Str.glued _ _ = _
    rw [StrLaws.glued_eq_join]
    have : ∀ (l : List (List Nat)), Str.join (Str.ofString "") (l.map strL) = strL l.flatten := by
      intro l
      induction l with
      | nil => decide +kernel
      | cons r q ih =>
        cases q with
        | nil => show strL r = strL ([r].flatten); simp
        | cons r2 q2 =>
          show (⟨((strL r).cps ++ (Str.ofString "").cps) ++ (Str.join (Str.ofString "") ((r2 :: q2).map strL)).cps⟩ : Str) = _
          rw [ih]
          simp [strL, show (Str.ofString "").cps = #[] by decide +kernel]
    exact this l
theorem quo_ne {t : List Nat} (h : t ≠ [34]) : (strL t == Str.ofString "\"") = false := by
  rw [beq_eq_false_iff_ne]
  intro e
  have e1 : (strL t).cps = (Str.ofString "\"").cps := congrArg Str.cps e
  rw [show (Str.ofString "\"").cps = #[34] by decide +kernel] at e1
  have e2 := congrArg Array.toList e1
  exact h (by simpa [strL] using e2)
theorem strL_length (l : List Nat) : (strL l).length = l.length := by show l.toArray.size = _; simp
section
variable {w : World} {mean : ExcName → Option Value} {mg mb : Str → Option Value}
theorem kw_G4_1 : True := by
  k_with_none
  k_with "call builtin:list.append" => (k_here; k_dflt (refine append_K (by k_asm) (by with_reducible assumption) (Upd.head (by with_reducible assumption)) ?_ (by with_reducible assumption)); intro _ _ _)
  k_with "call builtin:len" => (k_here; k_dflt (refine len_str (by with_reducible assumption) ?_))
  k_with "call ref" => (k_here; refine Hold.out ?_)
  k_with "compareOp NotIn str str" => (k_here; refine Hold.out ?_)
  k_with "exec For" => (k_here; refine Hold.out ?_)
  trivial
set_option maxHeartbeats 4000000 in
theorem strip_spec {A : Around} {s : Shared} {G : Heap} (X : (hd.heap_39 w.params).In G) (T : Top PV LO mean mg mb G) (st : G.StaysIn s.heap) (hd : A.depth + 2 < recursionLimit) (hA : A.handled = none) (x : Str) (tx : Tok) (hasc : x.cps.all (· < 128) = true) (hsz : x.cps.size ≤ 3000)
    (hend : endE false x.cps.toList = false) : wpAny (MD w) A (call (.ref 69) [.str x tx]) (StripPost x s) NE s := by
  k_dflt (refine' enter (binds := [(Str.ofString "addr", .str x tx)]) [] ?X ?T ?st ?hm ?ho ?hcd ?hroom ?hbind ?hloc ?hcell ?h ?hco ?hgen ?hk; (case X => assumption); (case T => assumption); (case st => assumption); (case hm => exact fun _ h => nomatch h); (case ho => k_is); (case hcd => k_is); (case hroom => lia); (case hbind => exact rfl); (case hloc => exact locs rfl); (case hcell => decide); (case hco => exact rfl); (case hgen => exact rfl); (case hk => exact rfl))
  intro g L h₁ hg hg' hL F N X' T'
  show wpAny _ _ _ _ _ _
  k_fold
  k_steps
  refine Hold.mk ?_
  have hct : Txt.contains x (Str.ofString "\"") = decide (34 ∈ x.cps.toList) := by
    rw [show Str.ofString "\"" = (⟨#[34]⟩ : Str) by decide +kernel]
    exact StrLaws.found_one x 34
  refine PySem.SB.notContains ?_
  rw [hct]
  by_cases h34 : 34 ∈ x.cps.toList
  · have hb : (!decide (34 ∈ x.cps.toList)) = false := by rw [decide_eq_true h34]; rfl
    k_steps
    refine Hold.mk ?_
    refine wpAny_For ?_
    k_steps
    refine Hold.mk ?_
    (rename Fr _ _ _ _ => F1)
    (rename News _ _ _ _ => N1)
    refine' useSpec ?va ?vb
    case va =>
      refine' gen_spec (G := g) X' T' ?vs ?vg ?vd x tx hasc (by lia) hend
      case vs => exact F1.keep
      case vg => exact Nat.le_of_lt (Nat.lt_of_le_of_lt F1.above F1.ns.lt)
      case vd => show A.depth + 1 + 1 < _; lia
    intro v s9 zzJ
    refine hidden fun zzG zzH => ?_
    obtain ⟨h9, tk9, gs, rfl, hk9, rfl, hig, hLo, hgo⟩ := zzJ
    have F9 := fr_stay F1 hk9
    have N9 := news_stay N1 hk9
    refine zzH ?_
    clear zzH zzG
    show wpAny _ _ (pyIter _) _ _ _
    refine wpAny_pyIter_gen hig ?_
    dsimp only at hk9 hig hLo hgo
    have hLL := F1.ns.lt
    have hra := Heap.lt_size (N1 _ (.head _)).1
    dsimp only at hra
    clear F1 N1
    generalize hLgE : Array.size (Heap.objs _) = Lg at hig hLo hgo hLL hra
    have hspl : (runE 0 false x.cps.toList).length ≤ 3000 := Nat.le_trans (runE_len _ _ _) (by rw [Array.length_toList]; exact hsz)
    have hunf : stripT x = strL (stripE x.cps.toList (runE 0 false x.cps.toList) 0 none []).flatten := by unfold stripT; rw [if_pos h34]
    generalize hsp : runE 0 false x.cps.toList = sp at hgo hspl hunf
    have hLt : Lg < h9.objs.size := by obtain ⟨o, ho⟩ := hLo; exact Heap.lt_size ho
    have hat : Lg + 1 < h9.objs.size := by obtain ⟨o, _, _, ho, _⟩ := hig; exact Heap.lt_size ho
    refine' loop_gen (Lg := Lg) (it := h9.objs.size) (gi := s.gens.size) (gs := gs) (sp := sp) (fun j m ld => ∃ ra k start op res ls to ts, ld = [(ra, W.listOf (strValues ls).toArray k)] ∧ m "addr" = some (.str x tx) ∧ m "start" = some (.int (start : Nat) ts) ∧ m "open_pos" = some (match (op : Option Nat) with | none => Value.none | some o => .int (o : Nat) to) ∧ m "result" = some (.ref ra) ∧
      ls.map (·.1) = (res : List (List Nat)).map strL ∧ res.length ≤ j ∧ (∀ r ∈ res, r.length ≤ 3000) ∧ stripE x.cps.toList (sp.drop j) start op res = stripE x.cps.toList sp 0 none []) ?hh ?hroom ?hl ?hkp ?hkc ?hlo ?hcls ?F ?N ?J0 ?hld ?hLLg ?hLa ?hLo ?hit ?hig ?hagi ?hgs ?hgo ?turn ?done
    case hh => exact hA
    case hroom => show A.depth + 1 < _; lia
    case hl => exact T'.nolimit
    case hkp => exact rfl
    case hkc => exact rfl
    case hlo => exact rfl
    case hcls => exact rfl
    case F => exact F9
    case N => exact N9
    case J0 => exact ⟨_, _, 0, none, [], [], 0, _, rfl, rfl, rfl, rfl, rfl, rfl, Nat.le_refl _, (fun _ h => nomatch h), rfl⟩
    case hld => exact fun p hp => by rw [List.mem_singleton.mp hp]; exact hra
    case hLLg => exact hLL
    case hit => exact hLt
    case hLa => exact Nat.le_succ _
    case hLo => exact hLo
    case hig => exact hig
    case hagi =>
      intro q
      simp only [List.mem_cons, List.not_mem_nil, or_false] at q
      rcases q with q | q | q
      · exact absurd q (Nat.succ_ne_self _)
      · exact Nat.lt_irrefl _ (q ▸ hat)
      · rw [q] at hat; exact Nat.lt_irrefl _ (Nat.lt_of_succ_lt hat)
    case hgs => simp
    case hgo =>
      intro s₂ e
      have h2 := fun (A' : Around) (hA' : A'.handled = none) => hgo A' s₂ hA' ⟨fun a _ => by rw [e], by rw [e]; exact F9.keep⟩
      rw [show s₂.heap = h9 from e] at h2
      exact h2 _ hA
    case turn =>
      clear F9 N9
      intro j pr m₁ ld₁ ownl tp tc gens₁ h₂ tk₂ hpr zzJ hb1 hb2 F N
      refine hidden fun zzG zzH => ?_
      obtain ⟨ra, k, start, op, res, ls, to, ts, rfl, m1, m2, m3, m4, hls, hrl, hrb, hE⟩ := zzJ
      rw [norm1 m1, norm1 m2, norm1 m3, norm1 m4] at F
      have hN' : News g _ h₂ ((ra, W.listOf (strValues ls).toArray k) :: ownl) := N
      clear N
      have hup : ∀ p ∈ ownl, p.1 ≠ ra := fun p hp q => by
        have z1 := hb1 _ (.head _)
        have z2 := hb2 p hp
        rw [q] at z2
        exact Nat.lt_irrefl _ (Nat.lt_of_lt_of_le z1 z2)
      have hra1 := hb1 _ (.head _)
      dsimp only at hra1
      have hjs : j < sp.length := (List.getElem?_eq_some_iff.mp hpr).1
      have hll : ls.length = res.length := by have := congrArg List.length hls; simpa using this
      have hzz : (strValues ls).toArray.size ≤ sizeLine := by
        rw [sizeLine_eq]; simp only [strValues, List.size_toArray, List.length_map]; lia
      rw [drop_at hpr] at hE
      obtain ⟨p1, t1⟩ := pr
      by_cases h34 : t1 = [34]
      · have hq : (strL t1 == Str.ofString "\"") = true := by rw [h34]; decide +kernel
        rw [h34] at hE
        cases op with
        | none =>
          rw [stripE_q] at hE
          refine zzH ?_
          clear zzH zzG
          show wpAny _ _ _ _ _ _
          k_fold
          k_steps
          (rename Fr _ _ _ _ => F9)
          (rename News _ _ _ _ => N9)
          exact ⟨_, _, _, [(ra, W.listOf (strValues ls).toArray k)], rfl, F9, N9, hb1, ra, k, start, some p1, res, ls, _, _, rfl, rfl, rfl, rfl, rfl, hls, by lia, hrb, hE⟩
        | some o =>
          rw [stripE_o] at hE
          by_cases hso : start = o
          · have hso' : (((start : Nat) : Int) != ((o : Nat) : Int)) = false := by rw [hso]; simp
            rw [if_neg (by simpa using hso)] at hE
            refine zzH ?_
            clear zzH zzG
            show wpAny _ _ _ _ _ _
            k_fold
            k_steps
            (rename Fr _ _ _ _ => F9)
            (rename News _ _ _ _ => N9)
            exact ⟨_, _, _, [(ra, W.listOf (strValues ls).toArray k)], rfl, F9, N9, hb1, ra, k, p1 + 1, none, res, ls, 0, _, rfl, rfl, rfl, rfl, rfl, hls, by lia, hrb, hE⟩
          · have hso' : (((start : Nat) : Int) != ((o : Nat) : Int)) = true := by rw [bne_iff_ne]; lia
            rw [if_pos hso] at hE
            refine zzH ?_
            clear zzH zzG
            show wpAny _ _ _ _ _ _
            k_fold
            k_steps
            (rename Fr _ _ _ _ => F9)
            (rename News _ _ _ _ => N9)
            have hpush : ∀ t, (strValues ls).toArray.push (Value.str (Txt.slice x (some (start : Int)) (some (o : Int))) t) = (strValues (ls ++ [(Txt.slice x (some (start : Int)) (some (o : Int)), t)])).toArray := fun t => by simp [strValues]
            rw [hpush] at N9
            refine ⟨_, _, _, [(ra, _)], rfl, F9, N9, (fun p hp => by rw [List.mem_singleton.mp hp]; exact hra1), ra, k + 1, p1 + 1, none, res ++ [(x.cps.toList.drop start).take (o - start)], _, 0, _, rfl, rfl, rfl, rfl, rfl, ?_, ?_, ?_, hE⟩
            · rw [List.map_append, hls, List.map_append, slice_nat]; rfl
            · rw [List.length_append, List.length_singleton]; lia
            · intro r hr
              rcases List.mem_append.mp hr with hr | hr
              · exact hrb r hr
              · rw [List.mem_singleton.mp hr, List.length_take, List.length_drop, Array.length_toList]; lia
      · have hq : (strL t1 == Str.ofString "\"") = false := quo_ne h34
        rw [stripE_n h34] at hE
        refine zzH ?_
        clear zzH zzG
        show wpAny _ _ _ _ _ _
        k_fold
        k_steps
        (rename Fr _ _ _ _ => F9)
        (rename News _ _ _ _ => N9)
        exact ⟨_, _, _, [(ra, W.listOf (strValues ls).toArray k)], rfl, F9, N9, hb1, ra, k, start, op, res, ls, _, _, rfl, rfl, rfl, rfl, rfl, hls, by lia, hrb, hE⟩
    case done =>
      clear F9 N9
      intro m₁ ld₁ h₂ tk₂ gens₁ hga hgf zzJ F N
      refine hidden fun zzG zzH => ?_
      obtain ⟨ra, k, start, op, res, ls, to, ts, rfl, m1, m2, m3, m4, hls, hrl, hrb, hE⟩ := zzJ
      have hbare : Bare s.gens → Bare gens₁ := fun hb i y hy => by
        by_cases q : i = s.gens.size
        · rw [q, hgf] at hy; cases hy; rfl
        · rw [hga i q] at hy
          have hlt : i < s.gens.size := by
            have h1 : i < (s.gens.push gs).size := by
              have h2 := Array.getElem?_eq_some_iff.mp hy
              exact h2.1
            rw [Array.size_push] at h1; lia
          have h3 : (s.gens.push gs)[i]? = s.gens[i]? := by rw [Array.getElem?_push_lt hlt, Array.getElem?_eq_getElem hlt]
          exact hb i y (h3.symm.trans hy)
      rw [norm1 m1, norm1 m2, norm1 m3, norm1 m4] at F
      rw [List.drop_length] at hE
      have hll : ls.length = res.length := by have := congrArg List.length hls; simpa using this
      have hzz : (strValues ls).toArray.size ≤ sizeLine := by
        rw [sizeLine_eq]; simp only [strValues, List.size_toArray, List.length_map]; lia
      have hup : ∀ p ∈ ([] : List (Addr × Obj)), p.1 ≠ ra := fun _ h => nomatch h
      rw [show stripE x.cps.toList [] start op res = if start < x.cps.toList.length then res ++ [x.cps.toList.drop start] else res from by cases op <;> rfl] at hE
      have hfit : ¬ ((x.length : Nat) : Int) ≥ 2 ^ 63 := by have : x.length = x.cps.size := rfl; lia
      by_cases hsl : start < x.cps.toList.length
      · have hsl' : decide (((start : Nat) : Int) < ((x.length : Nat) : Int)) = true := by
          rw [decide_eq_true_eq]; rw [Array.length_toList] at hsl; show (start : Int) < (x.cps.size : Int); lia
        rw [if_pos hsl] at hE
        refine zzH ?_
        clear zzH zzG
        k_steps
        (rename Fr _ _ _ _ => F9)
        (rename News _ _ _ _ => N9)
        have hsf : Txt.slice x (some ((start : Nat) : Int)) none = strL (x.cps.toList.drop start) := by
          have hs0 : start ≤ x.length := by rw [Array.length_toList] at hsl; exact Nat.le_of_lt hsl
          rw [slice_from_eq (b := (x.length : Int)) (by lia) (by lia) rfl]
          have e1 : (((x.length : Nat) : Int) - ((start : Nat) : Int)).toNat = (x.cps.toList.drop start).length := by
            rw [List.length_drop, Array.length_toList]; show _ = x.length - start; lia
          rw [e1, Int.toNat_natCast, List.take_length]; rfl
        have hpush : ∀ t, (strValues ls).toArray.push (Value.str (Txt.slice x (some (start : Int)) none) t) = (strValues (ls ++ [(Txt.slice x (some (start : Int)) none, t)])).toArray := fun t => by simp [strValues]
        rw [hpush] at N9
        have hjo := joinE (l := res ++ [x.cps.toList.drop start]) (b := 3000) (c := 3001) (fun r hr => by
          rcases List.mem_append.mp hr with hr | hr
          · exact hrb r hr
          · rw [List.mem_singleton.mp hr, List.length_drop, Array.length_toList]; lia) (by rw [List.length_append, List.length_singleton]; lia) (by decide)
        k_dflt (refine SC.join (News.isList N9 (.head _)) (by rw [List.map_append, hls, hsf]; rw [List.map_append]; rfl) hjo.1 ?_)
        intro tj kj
        rw [hjo.2, hE, ← hunf]
        exact ⟨_, _, _, tj, rfl, fun a o e => F9.keep _ _ (hg a o e (by simp)), rfl, hbare⟩
      · have hsl' : decide (((start : Nat) : Int) < ((x.length : Nat) : Int)) = false := by
          rw [decide_eq_false_iff_not]; rw [Array.length_toList] at hsl; show ¬ (start : Int) < (x.cps.size : Int); lia
        rw [if_neg hsl] at hE
        refine zzH ?_
        clear zzH zzG
        k_steps
        (rename Fr _ _ _ _ => F9)
        (rename News _ _ _ _ => N9)
        have hjo := joinE (l := res) (b := 3000) (c := 3001) hrb (by lia) (by decide)
        k_dflt (refine SC.join (News.isList N9 (.head _)) hls hjo.1 ?_)
        intro tj kj
        rw [hjo.2, hE, ← hunf]
        exact ⟨_, _, _, tj, rfl, fun a o e => F9.keep _ _ (hg a o e (by simp)), rfl, hbare⟩
  · have hb : (!decide (34 ∈ x.cps.toList)) = true := by rw [decide_eq_false h34]; rfl
    k_steps
    (rename Fr _ _ _ _ => F9)
    exact ⟨_, _, _, tx, rfl, fun a o e => F9.keep _ _ (hg a o e (by simp)), by unfold stripT; rw [if_neg h34], fun h => h⟩
end
theorem kw_G4_z : True := by
  k_with_none
  trivial
end Mine
end

section
open PySem PySem.W PySem.Spec PySem.Calls PyProof.Rows PyProof.Rows.LCg
set_option Elab.async false
set_option maxRecDepth 100000
namespace Mine
section
variable {prog : Program} {w : World} {A : Around} {s : Shared} {env : Env} {Q : Flow → Shared → Prop} {g : Heap} {L : Addr}
def rgO (a : Int) (left : Int) : Obj := { cls := .type "range_iterator", dict := none, data := .fields #[rawInt a, rawInt left, rawInt 1], slots := #[] }
theorem go_cls {elts : List Expr} {k0 : Nat} {pt : Pos} {a : Addr} {v : Value} {Q : Unit → Shared → Prop} {E : Value → Shared → Prop} (h : ∃ o, s.heap.get? a = some o ∧ ∃ n vs, o.cls = .type n ∧ o.data = .fields vs ∧ (["enumerate", "zip", "dict_itemiterator", "dict_reverseitemiterator", "odict_iterator", "itertools.zip_longest", "itertools.pairwise"].contains n) = false) (hQ : Q () s) : wpAny (model prog w) A (letOwnedTupleGo (.Tuple elts k0 pt) (.ref a) v) Q E s := by
  cases v with
  | ref b =>
    obtain ⟨⟨cls, dd, data, sl⟩, ho, n, vs, hc, hd, hn⟩ := h
    simp only at hc hd
    subst hc hd
    unfold letOwnedTupleGo
    refine wpAny_bind (wpAny_load ho ?_)
    show wpAny _ A (if (["enumerate", "zip", "dict_itemiterator", "dict_reverseitemiterator", "odict_iterator", "itertools.zip_longest", "itertools.pairwise"].contains n && _) = true then _ else _) Q E s
    rw [hn]
    exact wpAny_pure hQ
  | _ => exact wpAny_pure hQ
/-- a for over a list object, by an invariant over the frame's map and the ledger -/
theorem loop_range {x : Str} {px : Pos} {body : List Stmt} {r : Addr} {a b : Int} {t u v : Tok} {n : Nat} {m : Str → Option Value} {ld : List (Addr × Obj)} (J : Nat → (Str → Option Value) → List (Addr × Obj) → Prop)
    (hh : A.handled = none) (hkx : env.kindOf x = some .local) (hlo : env.locals = L) (hcls : (env.scope.kind == .class || (env.scope.kind == .module && env.locals != env.globals)) = false)
    (F : Fr g L s.heap m) (N : News g L s.heap ld) (hJ : J 0 m ld)
    (hr : IsRange s.heap r a b 1 t u v) (hsm : Builtin.Range.small a b 1 = true) (hn : Builtin.Range.rangeSize a b 1 = ((n : Nat) : Int))
    (turn : ∀ i tv m₁ ld₁ it itO h₁ tk₁, i < n → J i m₁ ld₁ → (∀ p ∈ ld₁, p.1 ≠ it) → (∀ p ∈ ld, p.1 < it) → itO.cls = .type "range_iterator" → Fr g L h₁ (fun y => if y = x then some (.int (a + (i : Nat)) tv) else m₁ y) → News g L h₁ ((it, itO) :: ld₁) →
      wpAny (model prog w) A (execs body env) (ForStep g L s J it itO Q i) NE { s with heap := h₁, toks := tk₁ })
    (done : ∀ m₁ ld₁ h₁ tk₁, J n m₁ ld₁ → Fr g L h₁ m₁ → News g L h₁ ld₁ → Q .next { s with heap := h₁, toks := tk₁ }) :
    wpAny (model prog w) A (pyIter (.ref r)) (fun it s₂ => codeAny (model prog w) A (.forLoop (.Name x px) it body [] env) (fun r s' => match r with | .ok f => Q f s' | .error e => cameBackBy (model prog w) A env NE e s') s₂) NE s := by
  subst hlo
  have hitL : s.heap.objs.size ≠ env.locals := by
    obtain ⟨oL, _, _, hoL, _⟩ := F.ns
    exact Nat.ne_of_gt (Heap.lt_size hoL)
  have hitg : g.get? s.heap.objs.size = none := by
    cases q : g.get? s.heap.objs.size with
    | none => rfl
    | some o => exact absurd (Heap.lt_size (F.keep _ _ q)) (Nat.lt_irrefl _)
  have hlt : ∀ p ∈ ld, p.1 < s.heap.objs.size := fun p hp => Heap.lt_size (N p hp).1
  refine wpAny_pyIter_range hr hsm ?_
  rw [hn]
  refine codeAny_forLoop (fun k s' => ∃ i m₁ ld₁ h₁ tk₁ itO, (itO = rgO (a + (i : Nat)) ((n : Int) - (i : Nat))) ∧ k = n - i ∧ i ≤ n ∧ s' = { s with heap := h₁, toks := tk₁ } ∧ J i m₁ ld₁ ∧ Fr g env.locals h₁ m₁ ∧ News g env.locals h₁ ((s.heap.objs.size, itO) :: ld₁) ∧ ∀ p ∈ ld₁, p.1 ≠ s.heap.objs.size) ?_ n ?_ (fun _ => rfl)
  · rintro k s' ⟨i, m₁, ld₁, h₁, tk₁, itO, hit0, rfl, hi, rfl, hJ₁, F₁, N₁, hne⟩
    have hit : IsRangeIter h₁ s.heap.objs.size (a + (i : Nat)) ((n : Int) - (i : Nat)) 1 := by have z := (N₁ _ (.head _)).1; rw [hit0] at z; exact z
    by_cases hilt : i < n
    · refine wpAny_mono (wpAny_pyNext_range_item (E := NE) (s := { s with heap := h₁, toks := tk₁ }) hit (by lia) (fun h' hit' hs => ?_)) (fun r s₁ q => q) fun _ _ y => y.elim
      have F' := F₁.change hs hitL hitg
      have N' : News g env.locals h' ld₁ := news_ext (news_tail N₁) (Heap.SameBut.extBut hs) hne
      refine wpAny_assign_Name (wpAny_storeName_local hkx F'.ns (fun h'' hn hs' => ?_) hcls)
      have e2 : (n : Int) - (i : Nat) - 1 = (n : Int) - ((i + 1 : Nat) : Int) := by lia
      have e3 : a + (i : Nat) + 1 = a + ((i + 1 : Nat) : Int) := by lia
      rw [e2, e3] at hit'
      have hit'' : h''.get? s.heap.objs.size = some (rgO (a + ((i + 1 : Nat) : Int)) ((n : Int) - ((i + 1 : Nat) : Int))) := (hs'.2 _ hitL).trans hit'
      have N'' : News g env.locals h'' ((s.heap.objs.size, rgO (a + ((i + 1 : Nat) : Int)) ((n : Int) - ((i + 1 : Nat) : Int))) :: ld₁) := fun p hp => by
        rcases List.mem_cons.mp hp with rfl | hp
        · exact ⟨hit'', hitL, hitg⟩
        · exact (N'.set hs') p hp
      refine wpAny_mono (turn i _ m₁ ld₁ s.heap.objs.size _ h'' _ hilt hJ₁ hne hlt rfl (F'.set hn hs') N'') (fun f s₃ q => ?_) fun _ _ y => y.elim
      cases f with
      | next =>
        obtain ⟨h₃, tk₃, m₂, ld₂, rfl, F₂, N₂, hne₂, hJ₂⟩ := q
        exact ⟨n - (i + 1), by lia, i + 1, m₂, ld₂, h₃, tk₃, _, rfl, rfl, hilt, rfl, hJ₂, F₂, N₂, hne₂⟩
      | cont =>
        obtain ⟨h₃, tk₃, m₂, ld₂, rfl, F₂, N₂, hne₂, hJ₂⟩ := q
        exact ⟨n - (i + 1), by lia, i + 1, m₂, ld₂, h₃, tk₃, _, rfl, rfl, hilt, rfl, hJ₂, F₂, N₂, hne₂⟩
      | brk => exact q
      | ret v => exact q
    · have hie : i = n := by lia
      subst hie
      refine wpAny_mono (wpAny_pyNext_range_end (E := NE) (s := { s with heap := h₁, toks := tk₁ }) hh hit (by lia) (fun h' hs => ?_)) (fun r s₁ q => q) fun _ _ y => y.elim
      refine wpAny_execs_nil ?_
      exact done m₁ ld₁ h' tk₁ hJ₁ (fr_ext F₁ hs hitL hitg) (news_ext (news_tail N₁) hs hne)
  · refine ⟨0, m, ld, _, _, rgO a n, by simp [rgO], rfl, Nat.zero_le _, rfl, hJ, F.push _, fun p hp => ?_, fun p hp => Nat.ne_of_lt (hlt p hp)⟩
    rcases List.mem_cons.mp hp with rfl | hp
    · exact ⟨Heap.get?_push_size _ rfl, hitL, hitg⟩
    · exact ⟨Heap.get?_push_of_some _ (N p hp).1, (N p hp).2⟩
def ForStepG (g : Heap) (L : Addr) (s : Shared) (J : Nat → (Str → Option Value) → List (Addr × Obj) → Prop) (it : Addr) (itO : Obj) (Q : Flow → Shared → Prop) (i : Nat) (f : Flow) (s₃ : Shared) : Prop :=
  match f with
  | .next | .cont => ∃ h' tk gn m₂ ld₂, s₃ = { s with heap := h', toks := tk, gens := gn } ∧ (Bare s.gens → Bare gn) ∧ Fr g L h' m₂ ∧ News g L h' ((it, itO) :: ld₂) ∧ (∀ p ∈ ld₂, p.1 ≠ it) ∧ J (i + 1) m₂ ld₂
  | .brk => Q .next s₃
  | .ret v => Q (.ret v) s₃
/-- a for over a list object, by an invariant over the frame's map and the ledger -/
theorem loop_pair {xa xb : Str} {pa pb pt : Pos} {k0 : Nat} {body : List Stmt} {l : Addr} {items : Array Value} {m : Str → Option Value} {ld : List (Addr × Obj)} (J : Nat → (Str → Option Value) → List (Addr × Obj) → Prop)
    (hh : A.handled = none) (hka : env.kindOf xa = some .local) (hkb : env.kindOf xb = some .local) (hlo : env.locals = L) (hcls : (env.scope.kind == .class || (env.scope.kind == .module && env.locals != env.globals)) = false)
    (F : Fr g L s.heap m) (N : News g L s.heap ld) (hJ : J 0 m ld)
    (hL : ∀ h m' ld' i, J i m' ld' → Fr g L h m' → News g L h ld' → h.IsList l items)
    (hT : ∀ m' ld' i v, J i m' ld' → items[i]? = some v → ∃ t y z, v = .ref t ∧ TupIn g ld' t #[y, z])
    (turn : ∀ i tup y z m₁ ld₁ it itO h₁ tk₁ gn₁, (Bare s.gens → Bare gn₁) → items[i]? = some (.ref tup) → IsTup h₁ tup #[y, z] → J i m₁ ld₁ → it ≠ l → (∀ p ∈ ld₁, p.1 ≠ it) → (∀ p ∈ ld, p.1 < it) → itO.cls = .type "list_iterator" → Fr g L h₁ (fun x => if x = xb then some z else if x = xa then some y else m₁ x) → News g L h₁ ((it, itO) :: ld₁) →
      wpAny (model prog w) A (execs body env) (ForStepG g L s J it itO Q i) NE { s with heap := h₁, toks := tk₁, gens := gn₁ })
    (done : ∀ m₁ ld₁ h₁ tk₁ gn₁, (Bare s.gens → Bare gn₁) → J items.size m₁ ld₁ → Fr g L h₁ m₁ → News g L h₁ ld₁ → Q .next { s with heap := h₁, toks := tk₁, gens := gn₁ }) :
    wpAny (model prog w) A (pyIter (.ref l)) (fun it s₂ => codeAny (model prog w) A (.forLoop (.Tuple [.Name xa pa, .Name xb pb] k0 pt) it body [] env) (fun r s' => match r with | .ok f => Q f s' | .error e => cameBackBy (model prog w) A env NE e s') s₂) NE s := by
  subst hlo
  have hls := hL _ _ _ _ hJ F N
  obtain ⟨ol, hol, hcl, _⟩ := id hls
  have hlit : s.heap.objs.size ≠ l := Nat.ne_of_gt (Heap.lt_size hol)
  have hitL : s.heap.objs.size ≠ env.locals := by
    obtain ⟨oL, _, _, hoL, _⟩ := F.ns
    exact Nat.ne_of_gt (Heap.lt_size hoL)
  have hitg : g.get? s.heap.objs.size = none := by
    cases q : g.get? s.heap.objs.size with
    | none => rfl
    | some o => exact absurd (Heap.lt_size (F.keep _ _ q)) (Nat.lt_irrefl _)
  have hlt : ∀ p ∈ ld, p.1 < s.heap.objs.size := fun p hp => Heap.lt_size (N p hp).1
  refine wpAny_pyIter_list hls ?_
  refine codeAny_forLoop_any (fun n s' => ∃ i m₁ ld₁ h₁ tk₁ gn₁ itO, (itO.cls = .type "list_iterator" ∧ itO.data = .fields #[.ref l, .int i 0]) ∧ n = items.size - i ∧ i ≤ items.size ∧ s' = { s with heap := h₁, toks := tk₁, gens := gn₁ } ∧ (Bare s.gens → Bare gn₁) ∧ J i m₁ ld₁ ∧ Fr g env.locals h₁ m₁ ∧ News g env.locals h₁ ((s.heap.objs.size, itO) :: ld₁) ∧ ∀ p ∈ ld₁, p.1 ≠ s.heap.objs.size) ?_ items.size ?_
  · rintro n s' ⟨i, m₁, ld₁, h₁, tk₁, gn₁, itO, hit0, rfl, hi, rfl, hbr, hJ₁, F₁, N₁, hne⟩
    have hit : h₁.IsListIter s.heap.objs.size l i := ⟨itO, (N₁ _ (.head _)).1, hit0⟩
    have hl₁ := hL _ _ _ _ hJ₁ F₁ (news_tail N₁)
    cases hx : items[i]? with
    | none =>
      have hie : i = items.size := by
        have := Array.getElem?_eq_none_iff.mp hx; lia
      refine wpAny_mono (wpAny_pyNext_list_end (E := NE) (s := { s with heap := h₁, toks := tk₁, gens := gn₁ }) hh hit hl₁ hx (fun h' hs => ?_)) (fun r s₁ q => q) fun _ _ y => y.elim
      refine wpAny_execs_nil ?_
      rw [hie] at hJ₁
      exact done m₁ ld₁ h' tk₁ gn₁ hbr hJ₁ (fr_ext F₁ hs hitL hitg) (news_ext (news_tail N₁) hs hne)
    | some v =>
      have hilt : i < items.size := by
        by_cases q : i < items.size
        · exact q
        · rw [Array.getElem?_eq_none_iff.mpr (Nat.not_lt.mp q)] at hx; cases hx
      refine wpAny_mono (wpAny_pyNext_list_item (E := NE) (s := { s with heap := h₁, toks := tk₁, gens := gn₁ }) hit hl₁ hx (fun h' hi' hs => ?_)) (fun r s₁ q => q) fun _ _ y => y.elim
      obtain ⟨itO', hit', hit1⟩ := hi'
      have F' := F₁.change hs hitL hitg
      have N' : News g env.locals h' ld₁ := news_ext (news_tail N₁) (Heap.SameBut.extBut hs) hne
      refine go_cls ⟨itO', hit', _, _, hit1.1, hit1.2, by decide⟩ ?_
      have N'i : News g env.locals h' ((s.heap.objs.size, itO') :: ld₁) := fun p hp => by
        rcases List.mem_cons.mp hp with rfl | hp
        · exact ⟨hit', hitL, hitg⟩
        · exact N' p hp
      obtain ⟨t, y, z, rfl, htup0⟩ := hT _ _ i v hJ₁ hx
      have htup := htup0.isTup F' N' fun p hp => hp
      refine unpackN_ (items := #[y, z]) F' N'i htup hh rfl rfl (fun h₈ F8 N8 => ?_)
      show wpAny _ A (do holding [z] (assign (.Name xa pa) env y); do holding [] (assign (.Name xb pb) env z); pure ()) _ _ _
      refine wpAny_bind (wpAny_holding (wpAny_assign_Name (wpAny_storeName_local hka F8.ns (fun h₉ hn9 hs9 => ?_) hcls)))
      replace hs9 : Heap.SameBut env.locals h₈ h₉ := hs9
      have F9 := F8.set hn9 hs9
      have N9 := N8.set hs9
      refine wpAny_bind (wpAny_holding (wpAny_assign_Name (wpAny_storeName_local hkb hn9 (fun ha hna hsa => wpAny_pure ?_) hcls)))
      replace hsa : Heap.SameBut env.locals h₉ ha := hsa
      have Fa := F9.set hna hsa
      have Na := N9.set hsa
      have htupa : IsTup ha t #[y, z] := htup0.isTup Fa Na fun p hp => .tail _ hp
      refine wpAny_mono (turn i t y z m₁ ld₁ s.heap.objs.size itO' ha _ gn₁ hbr hx htupa hJ₁ hlit hne hlt hit1.1 Fa Na) (fun f s₃ q => ?_) fun _ _ y => y.elim
      cases f with
      | next =>
        obtain ⟨h₃, tk₃, gn₃, m₂, ld₂, rfl, hbr₂, F₂, N₂, hne₂, hJ₂⟩ := q
        exact ⟨items.size - (i + 1), by lia, i + 1, m₂, ld₂, h₃, tk₃, gn₃, itO', hit1, rfl, hilt, rfl, hbr₂, hJ₂, F₂, N₂, hne₂⟩
      | cont =>
        obtain ⟨h₃, tk₃, gn₃, m₂, ld₂, rfl, hbr₂, F₂, N₂, hne₂, hJ₂⟩ := q
        exact ⟨items.size - (i + 1), by lia, i + 1, m₂, ld₂, h₃, tk₃, gn₃, itO', hit1, rfl, hilt, rfl, hbr₂, hJ₂, F₂, N₂, hne₂⟩
      | brk => exact q
      | ret v => exact q
  · refine ⟨0, m, ld, _, _, s.gens, liObj l 0, ⟨rfl, rfl⟩, rfl, Nat.zero_le _, rfl, fun h => h, hJ, F.push _, fun p hp => ?_, fun p hp => Nat.ne_of_lt (hlt p hp)⟩
    rcases List.mem_cons.mp hp with rfl | hp
    · exact ⟨Heap.get?_push_size _ rfl, hitL, hitg⟩
    · exact ⟨Heap.get?_push_of_some _ (N p hp).1, (N p hp).2⟩
end
end Mine
end

section
open PySem PySem.W PySem.Spec PySem.Calls PyProof.Rows PyProof.Rows.LCg
set_option Elab.async false
set_option maxRecDepth 100000
namespace Mine
def nums (xs : List Int) : List Int := (xs.take 4).map (fun k => k.fmod 1000000) ++ [3, 2, 1]
def total (xs : List Int) : Int := (nums xs).sum
def many (xs : List Int) : Nat := (nums xs).length + 1
def parOf (xs : List Int) (v : Nat) : Nat := ((nums xs).getD (v - 1) 0).toNat % v
def nbp (p : Nat → Nat) (i v : Nat) : List Nat := (if v ≠ 0 ∧ v ≤ i then [p v] else []) ++ (List.range (i + 1)).filter fun c => decide (c ≠ 0 ∧ p c = v)
def nbOf (xs : List Int) (v : Nat) : List Nat := nbp (parOf xs) ((nums xs).length) v
theorem par_lt (xs : List Int) (c : Nat) (h : c ≠ 0) : parOf xs c < c := Nat.mod_lt _ (Nat.pos_of_ne_zero h)
theorem nums_len (xs : List Int) : 3 ≤ (nums xs).length ∧ (nums xs).length ≤ 7 := by
  unfold nums
  rw [List.length_append, List.length_map, List.length_take]
  show 3 ≤ _ + 3 ∧ _ + 3 ≤ 7
  lia
theorem nums_bound (xs : List Int) : ∀ z ∈ nums xs, 0 ≤ z ∧ z < 1000000 := fun z hz => by
  unfold nums at hz
  rcases List.mem_append.mp hz with hz | hz
  · obtain ⟨k, _, rfl⟩ := List.mem_map.mp hz
    rw [Int.fmod_eq_emod_of_nonneg _ (by decide)]
    exact ⟨Int.emod_nonneg _ (by decide), Int.emod_lt_of_pos _ (by decide)⟩
  · simp only [List.mem_cons, List.not_mem_nil, or_false] at hz
    rcases hz with rfl | rfl | rfl <;> decide
theorem nbp_new {p : Nat → Nat} (hp : ∀ c, c ≠ 0 → p c < c) (i : Nat) : nbp p i (i + 1) = [] := by
  unfold nbp
  rw [if_neg (by lia), List.nil_append, List.filter_eq_nil_iff]
  intro c hc q
  have h1 := List.mem_range.mp hc
  simp only [decide_eq_true_eq] at q
  have := hp c q.1
  lia
theorem nbp_succ {p : Nat → Nat} (hp : ∀ c, c ≠ 0 → p c < c) (i v : Nat) : nbp p (i + 1) v = if v = i + 1 then [p (i + 1)] else if v = p (i + 1) then nbp p i v ++ [i + 1] else nbp p i v := by
  have hr : (List.range (i + 1 + 1)).filter (fun c => decide (c ≠ 0 ∧ p c = v)) = (List.range (i + 1)).filter (fun c => decide (c ≠ 0 ∧ p c = v)) ++ if p (i + 1) = v then [i + 1] else [] := by
    rw [List.range_succ, List.filter_append]
    congr 1
    by_cases q : p (i + 1) = v
    · rw [if_pos q]; simp [q]
    · rw [if_neg q]; simp [q]
  by_cases h1 : v = i + 1
  · rw [if_pos h1]
    have h2 := nbp_new hp i
    unfold nbp at h2 ⊢
    rw [hr, if_pos (by lia)]
    subst h1
    rw [if_neg (by lia), List.nil_append] at h2
    have h3 := hp (i + 1) (by lia)
    rw [h2, if_neg (by lia)]; rfl
  · rw [if_neg h1]
    unfold nbp
    rw [hr]
    have e : (if v ≠ 0 ∧ v ≤ i + 1 then [p v] else []) = if v ≠ 0 ∧ v ≤ i then [p v] else [] := by
      by_cases q : v ≠ 0 ∧ v ≤ i
      · rw [if_pos q, if_pos (by lia)]
      · rw [if_neg q, if_neg (by lia)]
    rw [e]
    generalize (if v ≠ 0 ∧ v ≤ i then [p v] else []) = aa
    by_cases h2 : v = p (i + 1)
    · rw [if_pos h2]
      conv => lhs; rw [if_pos h2.symm]
      rw [List.append_assoc]
    · rw [if_neg h2]
      conv => lhs; rw [if_neg (fun q => h2 q.symm : ¬ p (i + 1) = v)]
      rw [List.append_nil]
theorem nbp_zero (p : Nat → Nat) (v : Nat) : nbp p 0 v = [] := by
  unfold nbp
  rw [if_neg (by lia), List.nil_append, List.filter_eq_nil_iff]
  intro c hc q
  have h1 := List.mem_range.mp hc
  simp only [decide_eq_true_eq] at q
  lia
theorem nbp_len (p : Nat → Nat) (i v : Nat) : (nbp p i v).length ≤ i + 2 := by
  unfold nbp
  rw [List.length_append]
  have h1 := List.length_filter_le (fun c => decide (c ≠ 0 ∧ p c = v)) (List.range (i + 1))
  rw [List.length_range] at h1
  have h2 : (if v ≠ 0 ∧ v ≤ i then [p v] else []).length ≤ 1 := by split <;> simp
  lia
theorem nbp_lt {p : Nat → Nat} (hp : ∀ c, c ≠ 0 → p c < c) {n i v w : Nat} (hi : i < n) (hv : v < n) (h : w ∈ nbp p i v) : w < n := by
  unfold nbp at h
  rcases List.mem_append.mp h with h | h
  · split at h
    · rename_i q
      have := hp v q.1
      rw [List.mem_singleton.mp h]; lia
    · cases h
  · have := List.mem_range.mp (List.mem_filter.mp h).1
    lia
def lstsOf (n : Nat) (ad : Nat → Addr) (its : Nat → Array Value) (kk : Nat → Nat) : List (Addr × Obj) := (List.range n).map fun v => (ad v, W.listOf (its v) (kk v))
theorem mem_lstsOf {n : Nat} {ad : Nat → Addr} {its : Nat → Array Value} {kk : Nat → Nat} {p : Addr × Obj} : p ∈ lstsOf n ad its kk ↔ ∃ v, v < n ∧ p = (ad v, W.listOf (its v) (kk v)) := by
  unfold lstsOf
  rw [List.mem_map]
  constructor
  · rintro ⟨v, hv, rfl⟩; exact ⟨v, List.mem_range.mp hv, rfl⟩
  · rintro ⟨v, hv, rfl⟩; exact ⟨v, List.mem_range.mpr hv, rfl⟩
section
variable {prog : Program} {w : World} {A : Around} {E : Value → Shared → Prop} {s : Shared} {h₀ : Heap} {L : Addr} {m : Str → Option Value}
theorem append_lsts {pre : List (Addr × Obj)} {n v : Nat} {ad : Nat → Addr} {its : Nat → Array Value} {kk : Nat → Nat} {x : Value} {Q : Value → Shared → Prop} (F : Fr h₀ L s.heap m) (N : News h₀ L s.heap (pre ++ lstsOf n ad its kk)) (hv : v < n)
    (hinj : ∀ a, a < n → a ≠ v → ad a ≠ ad v) (hpre : ∀ p ∈ pre, p.1 ≠ ad v) (hsz : (its v).size ≤ sizeLine)
    (h : ∀ h', Fr h₀ L h' m → News h₀ L h' (pre ++ lstsOf n ad (fun u => if u = v then (its u).push x else its u) (fun u => if u = v then kk u + 1 else kk u)) → Q .none { s with heap := h' }) :
    wpAny (model prog w) A (call (.builtin "list.append") [.ref (ad v), x]) Q E s := by
  have z := N (ad v, W.listOf (its v) (kk v)) (List.mem_append_right _ (mem_lstsOf.mpr ⟨v, hv, rfl⟩))
  refine append_at (hsz := hsz) z.1 fun h' hs ho' => h h' (F.change hs z.2.1 z.2.2) fun p hp => ?_
  rcases List.mem_append.mp hp with hp | hp
  · have y := N p (List.mem_append_left _ hp)
    exact ⟨(hs.2 _ (hpre p hp)).trans y.1, y.2⟩
  · obtain ⟨u, hu, rfl⟩ := mem_lstsOf.mp hp
    by_cases q : u = v
    · subst q
      simp only [if_pos]
      exact ⟨ho', z.2⟩
    · simp only [if_neg q]
      have y := N (ad u, W.listOf (its u) (kk u)) (List.mem_append_right _ (mem_lstsOf.mpr ⟨u, hu, rfl⟩))
      exact ⟨(hs.2 _ (hinj u hu q)).trans y.1, y.2⟩
end
theorem range0 (n : Nat) (h : n ≤ 8) : Builtin.Range.small 0 (n : Int) 1 = true ∧ Builtin.Range.rangeSize 0 (n : Int) 1 = ((n : Nat) : Int) := by
  have : ∀ n : Nat, n < 9 → Builtin.Range.small 0 (n : Int) 1 = true ∧ Builtin.Range.rangeSize 0 (n : Int) 1 = ((n : Nat) : Int) := by decide +kernel
  exact this n (by lia)
theorem range1 (n : Nat) (h : n ≤ 7) : Builtin.Range.small 1 ((n : Int) + 1) 1 = true ∧ Builtin.Range.rangeSize 1 ((n : Int) + 1) 1 = ((n : Nat) : Int) := by
  have : ∀ n : Nat, n < 8 → Builtin.Range.small 1 ((n : Int) + 1) 1 = true ∧ Builtin.Range.rangeSize 1 ((n : Int) + 1) 1 = ((n : Nat) : Int) := by decide +kernel
  exact this n (by lia)
theorem off1_mem {D : Addr} : ∀ {l : List (Addr × Obj)}, Off1 D l → ∀ p ∈ l, p.1 ≠ D
  | [], _, _, h => nomatch h
  | _ :: _, x, p, h => by
    rcases List.mem_cons.mp h with rfl | h
    · exact x.1
    · exact off1_mem x.2 p h
abbrev cellsL (L : Addr) (o1 o2 o3 o4 o5 o6 o7 o8 : Obj) (r : List (Addr × Obj)) : List (Addr × Obj) := (L + 1 + 1 + 1 + 1 + 1 + 1 + 1 + 1, o8) :: (L + 1 + 1 + 1 + 1 + 1 + 1 + 1, o7) :: (L + 1 + 1 + 1 + 1 + 1 + 1, o6) :: (L + 1 + 1 + 1 + 1 + 1, o5) :: (L + 1 + 1 + 1 + 1, o4) :: (L + 1 + 1 + 1, o3) :: (L + 1 + 1, o2) :: (L + 1, o1) :: r
def Past (L : Addr) (r : List (Addr × Obj)) : Prop := ∀ p ∈ r, ∀ k : Nat, 1 ≤ k → k ≤ 8 → p.1 ≠ Nat.add L k
theorem past_lt {L : Addr} {r : List (Addr × Obj)} (h : ∀ p ∈ r, @LT.lt Nat _ (L + 1 + 1 + 1 + 1 + 1 + 1 + 1 + 1) p.1) : Past L r := fun p hp k _ h8 q => by
  have h1 := h p hp
  rw [q] at h1
  exact absurd h1 (by show ¬ (Nat.add L 8 < Nat.add L k); have e1 : Nat.add L 8 = (L : Nat) + 8 := rfl; have e2 : Nat.add L k = (L : Nat) + k := rfl; rw [e1, e2]; lia)
theorem Past.nil {L : Addr} : Past L [] := fun _ h => nomatch h
theorem Past.cons {L : Addr} {p : Addr × Obj} {r : List (Addr × Obj)} (h1 : ∀ k : Nat, 1 ≤ k → k ≤ 8 → p.1 ≠ Nat.add L k) (h : Past L r) : Past L (p :: r) := fun q hq => by
  rcases List.mem_cons.mp hq with rfl | hq
  · exact h1
  · exact h q hq
theorem Past.append {L : Addr} {r r' : List (Addr × Obj)} (h1 : Past L r) (h : Past L r') : Past L (r ++ r') := fun q hq => by
  rcases List.mem_append.mp hq with hq | hq
  · exact h1 q hq
  · exact h q hq
theorem nn (L a b : Nat) (h : a ≠ b) : L + a ≠ L + b := by lia
theorem past_cells {L D : Addr} {o1 o2 o3 o4 o5 o6 o7 o8 : Obj} {r : List (Addr × Obj)} (h : ∀ p ∈ cellsL L o1 o2 o3 o4 o5 o6 o7 o8 r, p.1 ≠ D) : ∀ k : Nat, 1 ≤ k → k ≤ 8 → D ≠ Nat.add L k := fun k h1 h8 q => by
  have hk : k = 1 ∨ k = 2 ∨ k = 3 ∨ k = 4 ∨ k = 5 ∨ k = 6 ∨ k = 7 ∨ k = 8 := by lia
  rcases hk with rfl | rfl | rfl | rfl | rfl | rfl | rfl | rfl
  · exact h _ (.tail _ (.tail _ (.tail _ (.tail _ (.tail _ (.tail _ (.tail _ (.head _)))))))) q.symm
  · exact h _ (.tail _ (.tail _ (.tail _ (.tail _ (.tail _ (.tail _ (.head _))))))) q.symm
  · exact h _ (.tail _ (.tail _ (.tail _ (.tail _ (.tail _ (.head _)))))) q.symm
  · exact h _ (.tail _ (.tail _ (.tail _ (.tail _ (.head _))))) q.symm
  · exact h _ (.tail _ (.tail _ (.tail _ (.head _)))) q.symm
  · exact h _ (.tail _ (.tail _ (.head _))) q.symm
  · exact h _ (.tail _ (.head _)) q.symm
  · exact h _ (.head _) q.symm
theorem cells_off {L a : Addr} {o1 o2 o3 o4 o5 o6 o7 o8 : Obj} {r : List (Addr × Obj)} (h : ∀ k : Nat, 1 ≤ k → k ≤ 8 → a ≠ Nat.add L k) (hr : ∀ p ∈ r, p.1 ≠ a) : ∀ p ∈ cellsL L o1 o2 o3 o4 o5 o6 o7 o8 r, p.1 ≠ a := by
  intro p hp
  delta cellsL at hp
  rcases List.mem_cons.mp hp with rfl | hp
  · exact fun q => h 8 (by decide) (by decide) q.symm
  rcases List.mem_cons.mp hp with rfl | hp
  · exact fun q => h 7 (by decide) (by decide) q.symm
  rcases List.mem_cons.mp hp with rfl | hp
  · exact fun q => h 6 (by decide) (by decide) q.symm
  rcases List.mem_cons.mp hp with rfl | hp
  · exact fun q => h 5 (by decide) (by decide) q.symm
  rcases List.mem_cons.mp hp with rfl | hp
  · exact fun q => h 4 (by decide) (by decide) q.symm
  rcases List.mem_cons.mp hp with rfl | hp
  · exact fun q => h 3 (by decide) (by decide) q.symm
  rcases List.mem_cons.mp hp with rfl | hp
  · exact fun q => h 2 (by decide) (by decide) q.symm
  rcases List.mem_cons.mp hp with rfl | hp
  · exact fun q => h 1 (by decide) (by decide) q.symm
  exact hr p hp
theorem updC1 {L : Addr} {o1 o2 o3 o4 o5 o6 o7 o8 : Obj} {r : List (Addr × Obj)} (h : Past L r) : UpdF (L + 1) o1 (cellsL L o1 o2 o3 o4 o5 o6 o7 o8 r) (fun o' => cellsL L o' o2 o3 o4 o5 o6 o7 o8 r) := by
  delta cellsL
  refine .tail (nn L 8 1 (by decide)) (.tail (nn L 7 1 (by decide)) (.tail (nn L 6 1 (by decide)) (.tail (nn L 5 1 (by decide)) (.tail (nn L 4 1 (by decide)) (.tail (nn L 3 1 (by decide)) (.tail (nn L 2 1 (by decide)) (.head ?_)))))))
  intro p hp
  exact h p hp 1 (by decide) (by decide)
theorem updC2 {L : Addr} {o1 o2 o3 o4 o5 o6 o7 o8 : Obj} {r : List (Addr × Obj)} (h : Past L r) : UpdF (L + 1 + 1) o2 (cellsL L o1 o2 o3 o4 o5 o6 o7 o8 r) (fun o' => cellsL L o1 o' o3 o4 o5 o6 o7 o8 r) := by
  delta cellsL
  refine .tail (nn L 8 2 (by decide)) (.tail (nn L 7 2 (by decide)) (.tail (nn L 6 2 (by decide)) (.tail (nn L 5 2 (by decide)) (.tail (nn L 4 2 (by decide)) (.tail (nn L 3 2 (by decide)) (.head ?_))))))
  intro p hp
  rcases List.mem_cons.mp hp with rfl | hp
  · exact nn L 1 2 (by decide)
  exact h p hp 2 (by decide) (by decide)
theorem updC3 {L : Addr} {o1 o2 o3 o4 o5 o6 o7 o8 : Obj} {r : List (Addr × Obj)} (h : Past L r) : UpdF (L + 1 + 1 + 1) o3 (cellsL L o1 o2 o3 o4 o5 o6 o7 o8 r) (fun o' => cellsL L o1 o2 o' o4 o5 o6 o7 o8 r) := by
  delta cellsL
  refine .tail (nn L 8 3 (by decide)) (.tail (nn L 7 3 (by decide)) (.tail (nn L 6 3 (by decide)) (.tail (nn L 5 3 (by decide)) (.tail (nn L 4 3 (by decide)) (.head ?_)))))
  intro p hp
  rcases List.mem_cons.mp hp with rfl | hp
  · exact nn L 2 3 (by decide)
  rcases List.mem_cons.mp hp with rfl | hp
  · exact nn L 1 3 (by decide)
  exact h p hp 3 (by decide) (by decide)
theorem updC4 {L : Addr} {o1 o2 o3 o4 o5 o6 o7 o8 : Obj} {r : List (Addr × Obj)} (h : Past L r) : UpdF (L + 1 + 1 + 1 + 1) o4 (cellsL L o1 o2 o3 o4 o5 o6 o7 o8 r) (fun o' => cellsL L o1 o2 o3 o' o5 o6 o7 o8 r) := by
  delta cellsL
  refine .tail (nn L 8 4 (by decide)) (.tail (nn L 7 4 (by decide)) (.tail (nn L 6 4 (by decide)) (.tail (nn L 5 4 (by decide)) (.head ?_))))
  intro p hp
  rcases List.mem_cons.mp hp with rfl | hp
  · exact nn L 3 4 (by decide)
  rcases List.mem_cons.mp hp with rfl | hp
  · exact nn L 2 4 (by decide)
  rcases List.mem_cons.mp hp with rfl | hp
  · exact nn L 1 4 (by decide)
  exact h p hp 4 (by decide) (by decide)
theorem updC5 {L : Addr} {o1 o2 o3 o4 o5 o6 o7 o8 : Obj} {r : List (Addr × Obj)} (h : Past L r) : UpdF (L + 1 + 1 + 1 + 1 + 1) o5 (cellsL L o1 o2 o3 o4 o5 o6 o7 o8 r) (fun o' => cellsL L o1 o2 o3 o4 o' o6 o7 o8 r) := by
  delta cellsL
  refine .tail (nn L 8 5 (by decide)) (.tail (nn L 7 5 (by decide)) (.tail (nn L 6 5 (by decide)) (.head ?_)))
  intro p hp
  rcases List.mem_cons.mp hp with rfl | hp
  · exact nn L 4 5 (by decide)
  rcases List.mem_cons.mp hp with rfl | hp
  · exact nn L 3 5 (by decide)
  rcases List.mem_cons.mp hp with rfl | hp
  · exact nn L 2 5 (by decide)
  rcases List.mem_cons.mp hp with rfl | hp
  · exact nn L 1 5 (by decide)
  exact h p hp 5 (by decide) (by decide)
theorem updC6 {L : Addr} {o1 o2 o3 o4 o5 o6 o7 o8 : Obj} {r : List (Addr × Obj)} (h : Past L r) : UpdF (L + 1 + 1 + 1 + 1 + 1 + 1) o6 (cellsL L o1 o2 o3 o4 o5 o6 o7 o8 r) (fun o' => cellsL L o1 o2 o3 o4 o5 o' o7 o8 r) := by
  delta cellsL
  refine .tail (nn L 8 6 (by decide)) (.tail (nn L 7 6 (by decide)) (.head ?_))
  intro p hp
  rcases List.mem_cons.mp hp with rfl | hp
  · exact nn L 5 6 (by decide)
  rcases List.mem_cons.mp hp with rfl | hp
  · exact nn L 4 6 (by decide)
  rcases List.mem_cons.mp hp with rfl | hp
  · exact nn L 3 6 (by decide)
  rcases List.mem_cons.mp hp with rfl | hp
  · exact nn L 2 6 (by decide)
  rcases List.mem_cons.mp hp with rfl | hp
  · exact nn L 1 6 (by decide)
  exact h p hp 6 (by decide) (by decide)
theorem updC7 {L : Addr} {o1 o2 o3 o4 o5 o6 o7 o8 : Obj} {r : List (Addr × Obj)} (h : Past L r) : UpdF (L + 1 + 1 + 1 + 1 + 1 + 1 + 1) o7 (cellsL L o1 o2 o3 o4 o5 o6 o7 o8 r) (fun o' => cellsL L o1 o2 o3 o4 o5 o6 o' o8 r) := by
  delta cellsL
  refine .tail (nn L 8 7 (by decide)) (.head ?_)
  intro p hp
  rcases List.mem_cons.mp hp with rfl | hp
  · exact nn L 6 7 (by decide)
  rcases List.mem_cons.mp hp with rfl | hp
  · exact nn L 5 7 (by decide)
  rcases List.mem_cons.mp hp with rfl | hp
  · exact nn L 4 7 (by decide)
  rcases List.mem_cons.mp hp with rfl | hp
  · exact nn L 3 7 (by decide)
  rcases List.mem_cons.mp hp with rfl | hp
  · exact nn L 2 7 (by decide)
  rcases List.mem_cons.mp hp with rfl | hp
  · exact nn L 1 7 (by decide)
  exact h p hp 7 (by decide) (by decide)
theorem updC8 {L : Addr} {o1 o2 o3 o4 o5 o6 o7 o8 : Obj} {r : List (Addr × Obj)} (h : Past L r) : UpdF (L + 1 + 1 + 1 + 1 + 1 + 1 + 1 + 1) o8 (cellsL L o1 o2 o3 o4 o5 o6 o7 o8 r) (fun o' => cellsL L o1 o2 o3 o4 o5 o6 o7 o' r) := by
  delta cellsL
  refine .head ?_
  intro p hp
  rcases List.mem_cons.mp hp with rfl | hp
  · exact nn L 7 8 (by decide)
  rcases List.mem_cons.mp hp with rfl | hp
  · exact nn L 6 8 (by decide)
  rcases List.mem_cons.mp hp with rfl | hp
  · exact nn L 5 8 (by decide)
  rcases List.mem_cons.mp hp with rfl | hp
  · exact nn L 4 8 (by decide)
  rcases List.mem_cons.mp hp with rfl | hp
  · exact nn L 3 8 (by decide)
  rcases List.mem_cons.mp hp with rfl | hp
  · exact nn L 2 8 (by decide)
  rcases List.mem_cons.mp hp with rfl | hp
  · exact nn L 1 8 (by decide)
  exact h p hp 8 (by decide) (by decide)
theorem allLt_go {d : Addr} : ∀ {l : List (Addr × Obj)}, AllLt d l → ∀ p ∈ l, @LT.lt Nat _ p.1 d
  | [], _, _, h => nomatch h
  | _ :: _, x, p, h => by
    rcases List.mem_cons.mp h with rfl | h
    · exact x.1
    · exact allLt_go x.2 p h
theorem allLt_at {d : Addr} {l : List (Addr × Obj)} {p : Addr × Obj} (hp : p ∈ l) (h : AllLt d l) : p.1 ≠ d := Nat.ne_of_lt (allLt_go h p hp)
theorem park {g h : Heap} {L D : Addr} {o o1 o2 o3 o4 o5 o6 o7 o8 : Obj} {fr imm : List (Addr × Obj)} (N : News g L h ((D, o) :: fr)) (hsub : ∀ p ∈ cellsL L o1 o2 o3 o4 o5 o6 o7 o8 imm, p ∈ fr) (hne : ∀ p ∈ fr, p.1 ≠ D) (hpa : Past L imm) :
    News g L h (cellsL L o1 o2 o3 o4 o5 o6 o7 o8 ((D, o) :: imm)) ∧ Past L ((D, o) :: imm) ∧ ∀ p ∈ imm, p.1 ≠ D := by
  refine ⟨fun p hp => ?_, .cons (past_cells fun q hq => hne q (hsub q hq)) hpa, fun p hp => hne p (hsub p (List.mem_append_right (cellsL L o1 o2 o3 o4 o5 o6 o7 o8 []) hp))⟩
  rcases List.mem_append.mp (show p ∈ cellsL L o1 o2 o3 o4 o5 o6 o7 o8 [] ++ ((D, o) :: imm) from hp) with hp | hp
  · exact N p (.tail _ (hsub p (List.mem_append_left imm hp)))
  · rcases List.mem_cons.mp hp with rfl | hp
    · exact N _ (.head _)
    · exact N p (.tail _ (hsub p (List.mem_append_right (cellsL L o1 o2 o3 o4 o5 o6 o7 o8 []) hp)))
def TupL (_g : Heap) (tups : List (Addr × Obj)) (t : Addr) (items : Array Value) : Prop := ∃ o, (t, o) ∈ tups ∧ o.cls = .type "tuple" ∧ ∃ n, o.data = .seq items n
theorem TupL.toIn {g : Heap} {tups : List (Addr × Obj)} {t : Addr} {items : Array Value} (x : TupL g tups t items) : TupIn g tups t items := let ⟨o, h, r⟩ := x; ⟨o, .inl h, r⟩
theorem TupL.isTup {g h : Heap} {L t : Addr} {m : Str → Option Value} {tups ld : List (Addr × Obj)} {items : Array Value} (F : Fr g L h m) (N : News g L h ld) (sub : ∀ p ∈ tups, p ∈ ld) (x : TupL g tups t items) : IsTup h t items := x.toIn.isTup F N sub
theorem TupL.flip {g h : Heap} {L t : Addr} {m : Str → Option Value} {tups ld : List (Addr × Obj)} {items : Array Value} (x : TupL g tups t items) (F : Fr g L h m) (N : News g L h ld) (sub : ∀ p ∈ tups, p ∈ ld) : IsTup h t items := x.isTup F N sub
theorem TupL.mono {g g' : Heap} {l l' : List (Addr × Obj)} {t : Addr} {i : Array Value} (x : TupL g l t i) (k : ∀ p ∈ l, p ∈ l') (_kg : ∀ a o, g.get? a = some o → g'.get? a = some o) : TupL g' l' t i := let ⟨o, h, r⟩ := x; ⟨o, k _ h, r⟩
def Held (imm : List (Addr × Obj)) (g : Heap) (P : Heap → Prop) : Prop := ∀ h : Heap, (∀ a o, g.get? a = some o → h.get? a = some o) → (∀ p ∈ imm, h.get? p.1 = some p.2) → P h
theorem Held.use {imm : List (Addr × Obj)} {P : Heap → Prop} {g h : Heap} {L : Addr} {m : Str → Option Value} {ld : List (Addr × Obj)} (x : Held imm g P) (F : Fr g L h m) (N : News g L h ld) (sub : ∀ p ∈ imm, p ∈ ld) : P h := x h F.keep fun p hp => (N p (sub p hp)).1
theorem Held.mono {imm imm' : List (Addr × Obj)} {P : Heap → Prop} {g : Heap} (x : Held imm g P) (sub : ∀ p ∈ imm, p ∈ imm') : Held imm' g P := fun h k a => x h k fun p hp => a p (sub p hp)
end Mine
end

section
open PySem PySem.W PySem.Spec PySem.Calls PyProof.Rows PyProof.Rows.LCg PyProof.Rows.LCt
set_option Elab.async false
set_option maxRecDepth 100000
namespace Mine
def getDef {q : Program} {loose : List Str} {XP : (Str → Option Value) → Heap → Prop} {YP : World → Heap → Prop} {r : RowW} {kwd : List (Str × Expr)} {run : Value → List Value → Sem Value} {P : Prop} (d : DefRec) (_ : WalkO q loose XP YP r d kwd run → P) : DefRec := d
noncomputable def lawDef : DefRec := getDef _ Mine.hd
noncomputable abbrev lawE (L fa : Addr) (cd : Value) : Env := envOfC (Str.ofString "law") lawDef.scope L fa cd
noncomputable abbrev lawA (L fa : Addr) (cd : Value) : Around := callerA.deeper (lawE L fa cd)
section
variable {w : World} {mean : ExcName → Option Value} {mg mb : Str → Option Value}
theorem kw_LA_1 : True := by
  k_with_none
  k_with "execs cons" => (k_here; (with_reducible show wpAny _ _ (execs (Stmt.Assign [Expr.Name (Str.ofString "ties") _] _ _ :: _) _) _ _ _); refine Hold.out ?_)
  trivial
set_option maxHeartbeats 4000000 in
theorem stageA {s : Shared} {g : Heap} {L fa : Addr} {cd : Value} (X : (hd.heap_39 w.params).In g) (T : Top PV LO mean mg mb g) {sa : Addr} {vs : List Value} {xs : List Int} (hl : g.IsList sa vs.toArray) (hi : IntsAre vs xs) (hlen : xs.length ≤ 63)
    {m : Str → Option Value} {o1 o2 o3 o4 o5 o6 o7 o8 : Obj} (F : Fr g L s.heap m) (hm : m "script" = some (.ref sa)) (N : News g L s.heap (cellsL L o1 o2 o3 o4 o5 o6 o7 o8 []))
    (c1 : o1.data = .cell none) {Q : Flow → Shared → Prop}
    (k : ∀ (nu : Addr) (ws : List Value) (tn tt : Tok) (o1' : Obj) (h : Heap) (tk : Tok) (m' : Str → Option Value), IntsAre ws (nums xs) → o1'.data = .cell (some (.int (total xs) tt)) → Fr g L h m' → m' "numbers" = some (.ref nu) → m' "many" = some (.int (many xs : Nat) tn) →
      News g L h (cellsL L o1' o2 o3 o4 o5 o6 o7 o8 [(nu, W.listOf ws.toArray 0)]) → @LT.lt Nat _ (L + 1 + 1 + 1 + 1 + 1 + 1 + 1 + 1) nu → wpAny (MD w) (lawA L fa cd) (execs lawDef.body.tail.tail.tail (lawE L fa cd)) Q NE { s with heap := h, toks := tk }) :
    wpAny (MD w) (lawA L fa cd) (execs lawDef.body (lawE L fa cd)) Q NE s := by
  rw [norm1 hm] at F
  revert k
  delta lawA lawE lawDef getDef cellsL at *
  dsimp only [List.tail_cons] at *
  intro k
  k_steps
  refine Hold.mk ?_
  (rename Fr _ _ _ _ => F1)
  (rename News _ _ _ _ => N1)
  (rename IntsAre _ (_ ++ _) => hI1)
  (rename _ ∧ _ => hlt)
  have hmn : ((((xs.take 4).map (fun k : Int => k.fmod 1000000)).length + (1 + 1 + 1) : Nat) : Int) + 1 = ((many xs : Nat) : Int) := by
    unfold many nums; simp
  have hI2 : IntsAre _ (nums xs) := hI1
  rw [hmn] at F1
  refine k _ _ _ _ _ _ _ _ hI2 (by assumption) F1 rfl rfl ?_ ?_
  · intro p hp
    refine N1 p ?_
    revert p
    repeat (refine List.forall_mem_cons.2 ⟨by k_mem, ?_⟩)
    exact fun _ h => nomatch h
  · exact hlt.2.2.2.1
end
theorem kw_LA_z : True := by
  k_with_none
  trivial
end Mine
end

section
open PySem PySem.W PySem.Spec PySem.Calls PyProof.Rows PyProof.Rows.LCg PyProof.Rows.LCt
set_option Elab.async false
set_option maxRecDepth 100000
namespace Mine
section
variable {w : World} {mean : ExcName → Option Value} {mg mb : Str → Option Value}
inductive NJ (cl : List (Addr × Obj) → List (Addr × Obj)) (nu D3 : Addr) (nuO dO : Obj) (n : Nat) (ad : Nat → Addr) (tn : Tok) (p : Nat → Nat) (i : Nat) (m : Str → Option Value) (ld : List (Addr × Obj)) : Prop
  | mk : ∀ its kk, ld = cl ((nu, nuO) :: (D3, dO) :: lstsOf n ad its kk) → m "numbers" = some (.ref nu) → m "many" = some (.int (n : Nat) tn) → (∀ v, v < n → IntsAre (its v).toList ((nbp p i v).map fun (w : Nat) => (w : Int))) → NJ cl nu D3 nuO dO n ad tn p i m ld
theorem kw_LB_1 : True := by
  k_with_none
  k_with "execs cons" => (k_here; (with_reducible show wpAny _ _ (execs (Stmt.Assign [Expr.Name (Str.ofString "signs") _] _ _ :: _) _) _ _ _); refine Hold.out ?_)
  k_with "eval ListComp" => (k_here; k_dflt (refine LCg.ListComp_U (F₀ := by k_asm) (by with_unfolding_all rfl) (by decide) (by rfl) (by decide) (by rfl) ?_))
  k_with "CompSrc" => (k_here; refine Hold.out ?_)
  k_with "exec For Name Call cons nil" => (k_here; refine Hold.out ?_)
  k_with "subscriptTail Name Name ref int" => (k_here; refine Hold.out ?_)
  k_with "subscriptTail Name BinOp ref int" => (k_here; refine Hold.out ?_)
  k_with "getMethod ref" => (k_here; k_dflt (refine kl_method (by k_asm) (by with_reducible assumption) PySem.F.slot_list_append PySem.F.type_list_append ?_))
  k_with "pyIter" => (k_here; refine Hold.out ?_)
  k_with "pyIter ref" => (k_here; refine Hold.out ?_)
  k_with "storeName" => (k_here; k_dflt (refine storeX_C (by k_asm) (by k_asm) (by rfl) (by (first | exact updC1 (by with_reducible assumption) | exact updC2 (by with_reducible assumption) | exact updC3 (by with_reducible assumption) | exact updC4 (by with_reducible assumption) | exact updC5 (by with_reducible assumption) | exact updC6 (by with_reducible assumption) | exact updC7 (by with_reducible assumption) | exact updC8 (by with_reducible assumption))) (by k_asm) ?_; intro _ _ _ kzN _; (try dsimp only at kzN)))
  k_with "call builtin:list.append" => (k_here; refine Hold.out ?_)
  trivial
set_option maxHeartbeats 4000000 in
theorem stageB {s : Shared} {g : Heap} {L fa : Addr} {cd : Value} (X : (hd.heap_39 w.params).In g) (T : Top PV LO mean mg mb g) {xs : List Int} {nu : Addr} {ws : List Value} {tn tt : Tok} (hws : IntsAre ws (nums xs))
    {m : Str → Option Value} {o1 o2 o3 o4 o5 o6 o7 o8 : Obj} (F : Fr g L s.heap m) (hm1 : m "numbers" = some (.ref nu)) (hm2 : m "many" = some (.int (many xs : Nat) tn)) (N : News g L s.heap (cellsL L o1 o2 o3 o4 o5 o6 o7 o8 [(nu, W.listOf ws.toArray 0)])) (hnu : @LT.lt Nat _ (L + 1 + 1 + 1 + 1 + 1 + 1 + 1 + 1) nu)
    (c1 : o1.data = .cell (some (.int (total xs) tt))) (c2 : o2.data = .cell none) {Q : Flow → Shared → Prop}
    (k : ∀ (ta : Addr) (o2' : Obj) (h : Heap) (tk : Tok) (m' : Str → Option Value) (imm : List (Addr × Obj)), o2'.data = .cell (some (.ref ta)) → Fr g L h m' → m' "numbers" = some (.ref nu) → m' "many" = some (.int (many xs : Nat) tn) →
      News g L h (cellsL L o1 o2' o3 o4 o5 o6 o7 o8 ((nu, W.listOf ws.toArray 0) :: imm)) → Past L imm → Held imm g (fun h => TiesAt h ta (many xs) (nbOf xs)) →
      wpAny (MD w) (lawA L fa cd) (execs lawDef.body.tail.tail.tail.tail.tail (lawE L fa cd)) Q NE { s with heap := h, toks := tk }) :
    wpAny (MD w) (lawA L fa cd) (execs lawDef.body.tail.tail.tail (lawE L fa cd)) Q NE s := by
  have hnl := nums_len xs
  have hmy : many xs = (nums xs).length + 1 := rfl
  have hr0 := range0 (many xs) (by lia)
  have hitem : ∀ i, i < (nums xs).length → ∃ z tz, ws.toArray[(1 + (i : Nat) - 1 : Int).toNat]? = some (.int z tz) ∧ (nums xs)[i]? = some z := fun i hi2 => by
    have hwl := hws.length
    have hx : ws[i]? = some ws[i] := List.getElem?_eq_getElem (by lia)
    obtain ⟨z, tz, e1, e2⟩ := IntsAre.at hws i _ hx
    refine ⟨z, tz, ?_, e2⟩
    rw [show (1 + (i : Nat) - 1 : Int).toNat = i by lia, List.getElem?_toArray, hx, e1]
  rw [norm1 hm1, norm1 hm2] at F
  have hN := N
  clear N
  revert k
  delta lawA lawE lawDef getDef
  dsimp only [List.tail_cons] at *
  intro k
  k_steps
  refine Hold.mk ?_
  (rename Fr _ _ _ _ => F1)
  (rename IsRange _ _ _ _ _ _ _ _ => R1)
  obtain ⟨nw0, hnw0, N1⟩ : ∃ nw0, nw0 = _ ∧ News g L _ nw0 := ⟨_, rfl, by (rename News _ _ _ _ => N1); exact N1⟩
  refine CompSrc.range rfl F1 N1 R1 hr0.1 hr0.2 (by rw [sizeLine_eq]; lia) ?_
  intro h5
  refine comp_inv (fun i ys nw => ∃ ads : List Addr, ads.length = i ∧ ys = ads.map Value.ref ∧ nw = (ads.reverse.map fun a => (a, W.listOf #[] 0)) ++ nw0 ∧ ads.Nodup ∧ ∀ a ∈ ads, ∀ p ∈ nw0, @LT.lt Nat _ p.1 a) ?_ ?_ _ _ _ _ (Nat.zero_add _) ⟨[], rfl, rfl, rfl, List.nodup_nil, (fun _ h => nomatch h)⟩
  · rintro i ys nw x I oI C oC D3 m2 h6 tk6 hi3 ⟨ads, hal, rfl, hnw, hnd, hlt⟩ ⟨tx, rfl⟩ hoC hm2x F6 N6 hoff hne3
    show wpAny _ _ _ _ _ _
    k_fold
    k_steps
    (rename Fr _ _ _ _ => F9)
    (rename News _ _ _ _ => N9)
    (rename _ ∧ _ ∧ _ ∧ AllLt _ _ => hl9)
    have hl10 := allLt_mem hl9.2.2.2
    refine ⟨_, _, _, rfl, F9, (fun p hp => N9 p ?_), ?_, trivial, ads ++ [_], by rw [List.length_append, hal]; rfl, by rw [List.map_append]; rfl, by rw [List.reverse_append, List.map_append, List.append_assoc, ← hnw], ?_, ?_⟩
    · simp only [List.reverse_cons, List.reverse_nil, List.nil_append, List.map_cons, List.map_nil, List.cons_append, List.mem_cons] at hp ⊢
      rcases hp with h | h | h | h | h
      · exact .inr (.inl h)
      · exact .inr (.inr (.inl h))
      · exact .inr (.inr (.inr (.inl h)))
      · exact .inl h
      · exact .inr (.inr (.inr (.inr h)))
    · exact ⟨⟨Ne.symm (Nat.ne_of_lt hl9.1), Ne.symm (Nat.ne_of_lt hl9.2.1), Ne.symm (Nat.ne_of_lt hl9.2.2.1)⟩, hoff⟩
    · refine List.nodup_append.mpr ⟨hnd, by simp, fun a ha b hb => ?_⟩
      rw [List.mem_singleton.mp hb]
      exact Nat.ne_of_lt (hl10 (a, W.listOf #[] 0) (hnw ▸ List.mem_append_left _ (List.mem_map.mpr ⟨a, List.mem_reverse.mpr ha, rfl⟩)))
    · intro a ha p hp
      rcases List.mem_append.mp ha with ha | ha
      · exact hlt a ha p hp
      · rw [List.mem_singleton.mp ha]; exact hl10 p (hnw ▸ List.mem_append_right _ hp)
  · rintro ys nw ⟨ads, hal, rfl, rfl, hnd, hlt⟩ D3 h6 tk6 F6 N6 hoff
    obtain ⟨ad, had⟩ : ∃ ad : Nat → Addr, ad = fun v => ads.getD v 0 := ⟨_, rfl⟩
    have hadm : ∀ v, v < many xs → ads[v]? = some (ad v) := fun v hv => by
      rw [had, List.getElem?_eq_getElem (by lia)]; simp [List.getD, List.getElem?_eq_getElem (show v < ads.length by lia)]
    have hinj : ∀ v, v < many xs → ∀ a, a < many xs → a ≠ v → ad a ≠ ad v := fun v hv a ha hne q => by
      have h1 := hadm v hv
      have h2 := hadm a ha
      rw [q, ← h1] at h2
      exact hne ((List.getElem?_inj (by lia) hnd).mp h2)
    have hadlt : ∀ v, v < many xs → ∀ p ∈ nw0, @LT.lt Nat _ p.1 (ad v) := fun v hv p hp => hlt _ (List.mem_of_getElem? (hadm v hv)) p hp
    have hD3 : ∀ v, v < many xs → D3 ≠ ad v := fun v hv q => by
      have := off1_mem hoff (ad v, W.listOf #[] 0) (List.mem_append_left _ (List.mem_map.mpr ⟨ad v, List.mem_reverse.mpr (List.mem_of_getElem? (hadm v hv)), rfl⟩))
      exact this q.symm
    have hD3n : ∀ p ∈ nw0, p.1 ≠ D3 := fun p hp => off1_mem hoff p (List.mem_append_right _ hp)
    have N7 : News g L h6 (cellsL L o1 o2 o3 o4 o5 o6 o7 o8 ((nu, W.listOf ws.toArray 0) :: (D3, lst (ads.map Value.ref)) :: lstsOf (many xs) ad (fun _ => #[]) (fun _ => 0))) := by
      intro p hp
      refine N6 p ?_
      rw [hnw0]
      rcases List.mem_append.mp (show p ∈ cellsL L o1 o2 o3 o4 o5 o6 o7 o8 [] ++ _ from hp) with hp | hp
      · exact .tail _ (List.mem_append_right _ (List.mem_append_left [(nu, W.listOf ws.toArray 0)] hp))
      · rcases List.mem_cons.mp hp with rfl | hp
        · exact .tail _ (List.mem_append_right _ (List.mem_append_right (cellsL L o1 o2 o3 o4 o5 o6 o7 o8 []) (.head _)))
        · rcases List.mem_cons.mp hp with rfl | hp
          · exact .head _
          · obtain ⟨v, hv, rfl⟩ := mem_lstsOf.mp hp
            exact .tail _ (List.mem_append_left _ (List.mem_map.mpr ⟨ad v, List.mem_reverse.mpr (List.mem_of_getElem? (hadm v hv)), rfl⟩))
    clear N6
    rw [hnw0] at hadlt hD3n
    have hLD : ∀ p ∈ lstsOf (many xs) ad (fun _ => #[]) (fun _ => 0), ∀ q ∈ nw0, @LT.lt Nat _ q.1 p.1 := fun p hp q hq => by
      obtain ⟨v, hv, rfl⟩ := mem_lstsOf.mp hp
      exact hlt _ (List.mem_of_getElem? (hadm v hv)) q hq
    rw [hnw0] at hLD
    clear hoff hlt
    have hpa : ∀ its kk, Past L (lstsOf (many xs) ad its kk) := fun its kk p hp => by
      obtain ⟨v, hv, rfl⟩ := mem_lstsOf.mp hp
      exact past_cells (fun q hq => Nat.ne_of_lt (hadlt v hv q hq))
    have had9 : ∀ o2' : Obj, ∀ v, v < many xs → ∀ p ∈ cellsL L o1 o2' o3 o4 o5 o6 o7 o8 [(nu, W.listOf ws.toArray 0), (D3, lst (ads.map Value.ref))], p.1 ≠ ad v := fun o2' v hv => cells_off (hpa (fun _ => #[]) (fun _ => 0) _ (mem_lstsOf.mpr ⟨v, hv, rfl⟩)) fun p hp => by
      rcases List.mem_cons.mp hp with rfl | hp
      · exact Nat.ne_of_lt (hadlt v hv _ (List.mem_append_right (cellsL L o1 o2 o3 o4 o5 o6 o7 o8 []) (.head _)))
      · rw [List.mem_singleton.mp hp]; exact hD3 v hv
    have hrest : Past L ((nu, W.listOf ws.toArray 0) :: (D3, lst (ads.map Value.ref)) :: lstsOf (many xs) ad (fun _ => #[]) (fun _ => 0)) := .cons (past_lt (r := [(nu, W.listOf ws.toArray 0)]) (fun p hp => by rw [List.mem_singleton.mp hp]; exact hnu) _ (.head _)) (.cons (past_cells hD3n) (hpa _ _))
    delta cellsL at N7
    k_steps
    refine Hold.mk ?_
    refine wpAny_For ?_
    k_steps
    refine Hold.mk ?_
    (rename Fr _ _ _ _ => F3)
    (rename News _ _ _ _ => N3)
    (rename IsRange _ _ _ _ _ _ _ _ => R3)
    obtain ⟨o2', d2, N4⟩ : ∃ o2' : Obj, o2'.data = .cell (some (.ref D3)) ∧ News g L _ (cellsL L o1 o2' o3 o4 o5 o6 o7 o8 ((nu, W.listOf ws.toArray 0) :: (D3, lst (ads.map Value.ref)) :: lstsOf (many xs) ad (fun _ => #[]) (fun _ => 0))) := ⟨_, by assumption, N3⟩
    clear N3
    have hr1 := range1 (nums xs).length hnl.2
    have hcast : ((many xs : Nat) : Int) = (((nums xs).length : Nat) : Int) + 1 := by rw [hmy]; lia
    rw [← hcast] at hr1
    have hpl := par_lt xs
    refine' loop_range (n := (nums xs).length) (NJ (cellsL L o1 o2' o3 o4 o5 o6 o7 o8) nu D3 (W.listOf ws.toArray 0) (lst (ads.map Value.ref)) (many xs) ad tn (parOf xs)) ?hh ?hkx ?hlo ?hcls F3 N4 ?J0 R3 hr1.1 hr1.2 ?turn ?done
    case hh => exact rfl
    case hkx => exact rfl
    case hlo => exact rfl
    case hcls => exact rfl
    case J0 => exact ⟨_, _, rfl, rfl, rfl, fun v hv => by rw [nbp_zero]; exact .nil⟩
    case turn =>
      clear F3 N4 R3
      intro i tv m₁ ld₁ it itO h₁ tk₁ hi2 zzJ hne hlt0 hcl F N
      refine hidden fun zzG zzH => ?_
      obtain ⟨its, kk, rfl, m1, m2, hI⟩ := zzJ
      rw [norm1 m1, norm1 m2] at F
      delta cellsL at N
      have hI1 := hI (i + 1) (by lia)
      obtain ⟨z, tz, hz1, hz2⟩ := hitem i hi2
      have hzb := nums_bound xs z (List.mem_of_getElem? hz2)
      have hzf : z.fmod (1 + (i : Nat)) = ((parOf xs (i + 1) : Nat) : Int) := by
        unfold parOf
        rw [Nat.add_sub_cancel, List.getD_eq_getElem?_getD, hz2, Option.getD_some, Int.fmod_eq_emod_of_nonneg _ (by lia), Int.natCast_emod, Int.toNat_of_nonneg hzb.1, show (1 + (i : Nat) : Int) = ((i + 1 : Nat) : Int) by lia]
      have hmemv : (ad (i + 1), W.listOf (its (i + 1)) (kk (i + 1))) ∈ (it, itO) :: (cellsL L o1 o2' o3 o4 o5 o6 o7 o8 ((nu, W.listOf ws.toArray 0) :: (D3, lst (ads.map Value.ref)) :: lstsOf (many xs) ad its kk)) := .tail _ (.tail _ (.tail _ (.tail _ (.tail _ (.tail _ (.tail _ (.tail _ (.tail _ (.tail _ (.tail _ (mem_lstsOf.mpr ⟨i + 1, by lia, rfl⟩)))))))))))
      delta cellsL at hmemv
      refine zzH ?_
      clear zzH zzG
      show wpAny _ _ _ _ _ _
      k_fold
      k_steps
      refine Hold.mk ?_
      (rename Fr _ _ _ _ => F5)
      (rename News _ _ _ _ => N5)
      k_dflt (refine' item_lst (its := ws.toArray) ?yy1 ?yy2 ?yy3 hz1 ?_; (case yy1 => exact News.isList N5 (by k_mem)); (case yy2 => lia); (case yy3 => lia))
      k_steps
      refine Hold.mk ?_
      (rename Fr _ _ _ _ => F6)
      (rename News _ _ _ _ => N6)
      k_dflt (refine' item_lst (its := (ads.map Value.ref).toArray) (x := .ref (ad (i + 1))) ?yz1 ?yz2 ?yz3 ?yz4 ?_; (case yz1 => exact News.isList N6 (by k_mem)); (case yz2 => lia); (case yz3 => lia); (case yz4 => rw [show (1 + (i : Nat) : Int).toNat = i + 1 by lia, List.getElem?_toArray, List.getElem?_map, hadm _ (by lia)]; rfl))
      k_steps
      refine Hold.mk ?_
      rw [hzf]
      have hpre : ∀ v, v < many xs → ∀ p ∈ (it, itO) :: (cellsL L o1 o2' o3 o4 o5 o6 o7 o8 [(nu, W.listOf ws.toArray 0), (D3, lst (ads.map Value.ref))]), p.1 ≠ ad v := fun v hv p hp => by
        rcases List.mem_cons.mp hp with rfl | hp
        · exact fun q => hne _ (List.mem_append_right (cellsL L o1 o2' o3 o4 o5 o6 o7 o8 [(nu, W.listOf ws.toArray 0), (D3, lst (ads.map Value.ref))]) (mem_lstsOf.mpr ⟨v, hv, rfl⟩)) q.symm
        · exact had9 _ v hv p hp
      have hsz9 : ∀ v, v < many xs → (its v).size ≤ i + 2 := fun v hv => by
        have h1 := (hI v hv).length
        rw [List.length_map, Array.length_toList] at h1
        have h2 := nbp_len (parOf xs) i v
        lia
      have hi1 : i + 1 < many xs := by lia
      have hw1 : parOf xs (i + 1) < i + 1 := hpl _ (by lia)
      refine append_lsts (pre := (it, itO) :: (cellsL L o1 o2' o3 o4 o5 o6 o7 o8 [(nu, W.listOf ws.toArray 0), (D3, lst (ads.map Value.ref))])) F6 N6 hi1 (hinj _ hi1) (hpre _ hi1) (by have := hsz9 _ hi1; rw [sizeLine_eq]; lia) ?_
      intro h7 F7 N7
      clear F6 N6
      generalize hits1 : (fun u => if u = i + 1 then (its u).push (Value.int ((parOf xs (i + 1) : Nat) : Int) _) else its u) = its1 at N7
      generalize hkk1 : (fun u => if u = i + 1 then kk u + 1 else kk u) = kk1 at N7
      delta cellsL at N7
      dsimp only [List.cons_append, List.nil_append] at N7
      have hmemw : (ad (parOf xs (i + 1)), W.listOf (its1 (parOf xs (i + 1))) (kk1 (parOf xs (i + 1)))) ∈ (it, itO) :: (cellsL L o1 o2' o3 o4 o5 o6 o7 o8 ((nu, W.listOf ws.toArray 0) :: (D3, lst (ads.map Value.ref)) :: lstsOf (many xs) ad its1 kk1)) := .tail _ (.tail _ (.tail _ (.tail _ (.tail _ (.tail _ (.tail _ (.tail _ (.tail _ (.tail _ (.tail _ (mem_lstsOf.mpr ⟨parOf xs (i + 1), by lia, rfl⟩)))))))))))
      delta cellsL at hmemw
      k_steps
      refine Hold.mk ?_
      (rename Fr _ _ _ _ => F8)
      (rename News _ _ _ _ => N8)
      k_dflt (refine' item_lst (its := (ads.map Value.ref).toArray) (x := .ref (ad (parOf xs (i + 1)))) ?ya1 ?ya2 ?ya3 ?ya4 ?_; (case ya1 => exact News.isList N8 (by k_mem)); (case ya2 => lia); (case ya3 => lia); (case ya4 => rw [hzf, Int.toNat_natCast, List.getElem?_toArray, List.getElem?_map, hadm _ (by lia)]; rfl))
      k_steps
      refine Hold.mk ?_
      (rename Fr _ _ _ _ => F9)
      (rename News _ _ _ _ => N9)
      have hi2 : parOf xs (i + 1) < many xs := by lia
      refine append_lsts (pre := (it, itO) :: (cellsL L o1 o2' o3 o4 o5 o6 o7 o8 [(nu, W.listOf ws.toArray 0), (D3, lst (ads.map Value.ref))])) F9 N9 hi2 (hinj _ hi2) (hpre _ hi2) (by have := hsz9 _ hi2; rw [← hits1]; (try dsimp only); rw [if_neg (by lia), sizeLine_eq]; lia) ?_
      intro h10 F10 N10
      k_steps
      refine ⟨_, _, _, _, rfl, F10, N10, ?_, _, _, rfl, rfl, rfl, ?_⟩
      · intro p hp
        rcases List.mem_append.mp (show p ∈ cellsL L o1 o2' o3 o4 o5 o6 o7 o8 [(nu, W.listOf ws.toArray 0), (D3, lst (ads.map Value.ref))] ++ _ from hp) with hp | hp
        · exact hne p (List.mem_append_left (lstsOf (many xs) ad its kk) hp)
        · obtain ⟨v, hv, rfl⟩ := mem_lstsOf.mp hp
          exact hne (ad v, W.listOf (its v) (kk v)) (List.mem_append_right (cellsL L o1 o2' o3 o4 o5 o6 o7 o8 [(nu, W.listOf ws.toArray 0), (D3, lst (ads.map Value.ref))]) (mem_lstsOf.mpr ⟨v, hv, rfl⟩))
      · intro v hv
        try dsimp only
        rw [nbp_succ hpl]
        by_cases q1 : v = i + 1
        · subst q1
          rw [if_neg (by lia), ← hits1]
          try dsimp only
          rw [if_pos rfl, if_pos rfl, Array.toList_push]
          have h9 := IntsAre.append (hI _ hv) (.cons ((parOf xs (i + 1) : Nat) : Int) (tk₁ + 1 + 1) .nil)
          rw [nbp_new hpl] at h9
          exact h9
        · rw [if_neg q1]
          by_cases q2 : v = parOf xs (i + 1)
          · rw [if_pos q2, if_pos q2, ← hits1]
            try dsimp only
            rw [if_neg q1, Array.toList_push, List.map_append]
            have h9 := IntsAre.append (hI _ hv) (.cons (1 + (i : Nat) : Int) tv .nil)
            rw [show (1 + (i : Nat) : Int) = ((i + 1 : Nat) : Int) by lia] at h9 ⊢
            exact h9
          · rw [if_neg q2, if_neg q2, ← hits1]
            try dsimp only
            rw [if_neg q1]
            exact hI v hv
    case done =>
      clear F3 N4 R3
      intro m₁ ld₁ h₁ tk₁ zzJ F N
      refine hidden fun zzG zzH => ?_
      obtain ⟨its, kk, rfl, m1, m2, hI⟩ := zzJ
      refine zzH ?_
      clear zzH zzG
      k_steps
      refine Hold.mk ?_
      refine k D3 o2' _ _ m₁ ((D3, lst (ads.map Value.ref)) :: lstsOf (many xs) ad its kk) d2 F m1 m2 N (.cons (past_cells hD3n) (hpa _ _)) ?_
      intro h kg ki
      refine ⟨(ads.map Value.ref).toArray, ⟨_, ki _ (.head _), rfl, _, rfl⟩, fun v hv => ⟨ad v, its v, ?_, ⟨_, ki _ (.tail _ (mem_lstsOf.mpr ⟨v, hv, rfl⟩)), rfl, _, rfl⟩, hI v hv⟩⟩
      rw [List.getElem?_toArray, List.getElem?_map, hadm _ hv]; rfl
end
theorem kw_LB_z : True := by
  k_with_none
  trivial
end Mine
end

section
open PySem PySem.W PySem.Spec PySem.Calls PyProof.Rows PyProof.Rows.LCg PyProof.Rows.LCt
set_option Elab.async false
set_option maxRecDepth 100000
namespace Mine
def signS (c : Nat) : Str := ⟨#[34, 92, c, 34]⟩
def sgOf (a b c : Nat) : List Str := [Str.empty, signS a, signS b, signS c]
theorem strsAre_vals : ∀ {vs : List Value} {ss : List Str}, StrsAre vs ss → ∃ l : List (Str × Tok), vs = strValues l ∧ l.map (·.1) = ss
  | _, _, .nil => ⟨[], rfl, rfl⟩
  | _, _, .cons y t r => by
    obtain ⟨l, h1, h2⟩ := strsAre_vals r
    exact ⟨(y, t) :: l, by rw [h1]; rfl, by rw [← h2]; rfl⟩
theorem vals_strsAre : ∀ (l : List (Str × Tok)), StrsAre (strValues l) (l.map (·.1))
  | [] => .nil
  | p :: r => .cons _ _ (vals_strsAre r)
theorem lt_sign {a b : Nat} (h : (!ltCps (signS b).cps.toList (signS a).cps.toList) = true) : a ≤ b := by
  have : ltCps [34, 92, b, 34] [34, 92, a, 34] = false := by
    have h' : (!ltCps [34, 92, b, 34] [34, 92, a, 34]) = true := h
    simpa using h'
  simp [ltCps] at this
  exact this
theorem signs_sorted {t0 t1 t2 : Nat} (h0 : 33 ≤ t0 ∧ t0 ≤ 125) (h1 : 33 ≤ t1 ∧ t1 ≤ 125) (h2 : 33 ≤ t2 ∧ t2 ≤ 125) (d1 : t0 ≠ t1) (d2 : t0 ≠ t2) (d3 : t1 ≠ t2) {ss : List Str} (hp : ss.Perm [signS t0, signS t1, signS t2]) (hs : sortedS ss = true) :
    ∃ a b c, 33 ≤ a ∧ a < b ∧ b < c ∧ c ≤ 125 ∧ ss = [signS a, signS b, signS c] := by
  have hl : (ss.map fun x => x.cps.getD 2 0).Perm [t0, t1, t2] := hp.map _
  have he : ss = (ss.map fun x => x.cps.getD 2 0).map signS := by
    rw [List.map_map]
    conv => lhs; rw [← List.map_id ss]
    refine List.map_congr_left fun x hx => ?_
    have := hp.mem_iff.mp hx
    simp only [List.mem_cons, List.not_mem_nil, or_false] at this
    rcases this with rfl | rfl | rfl <;> rfl
  generalize (ss.map fun x => x.cps.getD 2 0) = l at hl he
  subst he
  have hnd : l.Nodup := hl.nodup_iff.mpr (by simp [d1, d2, d3])
  have hm : ∀ x ∈ l, 33 ≤ x ∧ x ≤ 125 := fun x hx => by
    have := hl.mem_iff.mp hx
    simp only [List.mem_cons, List.not_mem_nil, or_false] at this
    rcases this with rfl | rfl | rfl <;> assumption
  have hlen := hl.length_eq
  match l, hlen with
  | [a, b, c], _ =>
    have hs' : ((!ltCps (signS b).cps.toList (signS a).cps.toList) && ((!ltCps (signS c).cps.toList (signS b).cps.toList) && true)) = true := hs
    rw [Bool.and_eq_true, Bool.and_eq_true] at hs'
    have e1 := lt_sign hs'.1
    have e2 := lt_sign hs'.2.1
    simp only [List.nodup_cons, List.mem_cons, List.not_mem_nil, or_false, not_or] at hnd
    have m1 := hm a (by simp)
    have m3 := hm c (by simp)
    exact ⟨a, b, c, m1.1, by lia, by lia, m3.2, rfl⟩
theorem sign_cat (n : Nat) : (Str.ofString "\"\\" ++ (⟨#[n]⟩ : Str)) ++ Str.ofString "\"" = signS n := by
  show (⟨((Str.ofString "\"\\").cps ++ #[n]) ++ (Str.ofString "\"").cps⟩ : Str) = _
  rw [show (Str.ofString "\"\\").cps = #[34, 92] by decide +kernel, show (Str.ofString "\"").cps = #[34] by decide +kernel]; rfl
theorem signs_tot (tot : Int) {ss : List Str} (hp : ss.Perm ((List.range 3).map fun (k : Nat) => signS (33 + (tot + 31 * (k : Int)).fmod 93).toNat)) (hs : sortedS ss = true) : ∃ a b c, 33 ≤ a ∧ a < b ∧ b < c ∧ c ≤ 125 ∧ ss = [signS a, signS b, signS c] := by
  have e : ∀ x : Int, x.fmod 93 = x % 93 := fun x => Int.fmod_eq_emod_of_nonneg _ (by decide)
  have hp' : ss.Perm [signS (33 + (tot + 31 * ((0 : Nat) : Int)).fmod 93).toNat, signS (33 + (tot + 31 * ((1 : Nat) : Int)).fmod 93).toNat, signS (33 + (tot + 31 * ((2 : Nat) : Int)).fmod 93).toNat] := hp
  simp only [e] at hp'
  refine signs_sorted ?_ ?_ ?_ ?_ ?_ ?_ hp' hs <;> lia
section
variable {w : World} {mean : ExcName → Option Value} {mg mb : Str → Option Value}
theorem kw_LC_1 : True := by
  k_with_none
  k_with "execs cons" => (k_here; (with_reducible show wpAny _ _ (execs (Stmt.Assign [Expr.Name (Str.ofString "kinds") _] _ _ :: _) _) _ _ _); refine Hold.out ?_)
  k_with "eval ListComp" => (k_here; k_dflt (refine LCg.ListComp_U (F₀ := by k_asm) (by with_unfolding_all rfl) (by decide) (by rfl) (by decide) (by rfl) ?_))
  k_with "CompSrc" => (k_here; refine Hold.out ?_)
  k_with "call builtin:sorted" => (k_here; refine Hold.out ?_)
  k_with "call builtin:chr" => (k_here; refine Hold.out ?_)
  k_with "binaryOp Add ref ref" => (k_here; refine Hold.out ?_)
  k_with "storeName" => (k_here; k_dflt (refine storeX_C (by k_asm) (by k_asm) (by rfl) (by (first | exact updC1 (by with_reducible assumption) | exact updC2 (by with_reducible assumption) | exact updC3 (by with_reducible assumption) | exact updC4 (by with_reducible assumption) | exact updC5 (by with_reducible assumption) | exact updC6 (by with_reducible assumption) | exact updC7 (by with_reducible assumption) | exact updC8 (by with_reducible assumption))) (by k_asm) ?_; intro _ _ _ kzN _; (try dsimp only at kzN)))
  trivial
set_option maxHeartbeats 4000000 in
theorem stageC1 {s : Shared} {g : Heap} {L fa : Addr} {cd : Value} (X : (hd.heap_39 w.params).In g) (T : Top PV LO mean mg mb g) {tot : Int} {tt : Tok}
    {m : Str → Option Value} {o1 o2 o3 o4 o5 o6 o7 o8 : Obj} {imm : List (Addr × Obj)} (F : Fr g L s.heap m) (N : News g L s.heap (cellsL L o1 o2 o3 o4 o5 o6 o7 o8 imm)) (hpa : Past L imm)
    (c1 : o1.data = .cell (some (.int tot tt))) (c3 : o3.data = .cell none) {Q : Flow → Shared → Prop}
    (k : ∀ (sa : Addr) (o3' : Obj) (h : Heap) (tk : Tok) (sgl : List (Str × Tok)) (a b c : Nat), 33 ≤ a → a < b → b < c → c ≤ 125 → sgl.map (·.1) = sgOf a b c → o3'.data = .cell (some (.ref sa)) → Fr g L h m →
      News g L h (cellsL L o1 o2 o3' o4 o5 o6 o7 o8 ((sa, W.listOf (strValues sgl).toArray 0) :: imm)) → Past L ((sa, W.listOf (strValues sgl).toArray 0) :: imm) → (∀ p ∈ imm, p.1 ≠ sa) →
      wpAny (MD w) (lawA L fa cd) (execs lawDef.body.tail.tail.tail.tail.tail.tail (lawE L fa cd)) Q NE { s with heap := h, toks := tk }) :
    wpAny (MD w) (lawA L fa cd) (execs lawDef.body.tail.tail.tail.tail.tail (lawE L fa cd)) Q NE s := by
  revert k
  delta lawA lawE lawDef getDef
  dsimp only [List.tail_cons] at *
  intro k
  delta cellsL at N
  k_steps
  refine Hold.mk ?_
  (rename Fr _ _ _ _ => F1)
  (rename IsRange _ _ _ _ _ _ _ _ => R1)
  obtain ⟨nw0, hnw0, N1⟩ : ∃ nw0, nw0 = _ ∧ News g L _ nw0 := ⟨_, rfl, by (rename News _ _ _ _ => N1); exact N1⟩
  have hr0 := range0 3 (by lia)
  refine CompSrc.range rfl F1 N1 R1 hr0.1 hr0.2 (by rw [sizeLine_eq]; lia) ?_
  intro h5
  refine comp_inv (fun i ys nw => nw = nw0 ∧ ∃ l : List (Str × Tok), ys = strValues l ∧ l.map (·.1) = (List.range i).map fun (k : Nat) => signS (33 + (tot + 31 * (k : Int)).fmod 93).toNat) ?_ ?_ _ _ _ _ (Nat.zero_add _) ⟨rfl, [], rfl, rfl⟩
  · rintro i ys nw x I oI C oC D3 m2 h6 tk6 hi3 ⟨rfl, ls, rfl, hls⟩ ⟨tx, rfl⟩ hoC hm2x F6 N6 hoff hne3
    rw [hnw0] at N6 hoff
    show wpAny _ _ _ _ _ _
    k_fold
    k_steps
    have hch : 33 ≤ 33 + (tot + 31 * (0 + (i : Nat))).fmod 93 ∧ 33 + (tot + 31 * (0 + (i : Nat))).fmod 93 ≤ 125 := by
      rw [Int.fmod_eq_emod_of_nonneg _ (by decide)]; lia
    refine Hold.mk ?_
    k_dflt (refine chr_of_range (by lia) (by lia) ?_)
    k_steps
    (rename Fr _ _ _ _ => F9)
    (rename News _ _ _ _ => N9)
    refine ⟨_, _, _, rfl, F9, N9, hoff, trivial, hnw0.symm, ls ++ [(_, _)], by simp [strValues]; exact ⟨by rw [sign_cat], rfl⟩, ?_⟩
    rw [List.map_append, hls, List.range_succ, List.map_append]
    rfl
  · rintro ys nw ⟨rfl, ls, rfl, hls⟩ D3 h6 tk6 F6 N6 hoff
    rw [hnw0] at N6 hoff
    k_steps
    refine Hold.mk ?_
    (rename Fr _ _ _ _ => F7)
    (rename News _ _ _ _ => N7)
    have hll : ls.length = 3 := by have := congrArg List.length hls; simpa using this
    k_dflt (refine sorted_N_str F7 N7 (News.isList N7 (.head _)) (vals_strsAre ls) (by simp [strValues, hll]) ?_)
    intro h8 vs8 ss8 e8 F8 N8 hS8 hp8 hs8
    obtain ⟨l8, rfl, hl8⟩ := strsAre_vals hS8
    rw [hls] at hp8
    obtain ⟨a, b, c, ha, hab, hbc, hc, hss⟩ := signs_tot tot hp8 hs8
    clear F7 N7
    k_steps
    refine Hold.mk ?_
    (rename Fr _ _ _ _ => F9)
    (rename News _ _ _ _ => N9)
    k_dflt (refine kmk_add_lit F9 N9 (News.isList N9 (.tail _ (.tail _ (.head _)))) (News.isList N9 (.head _)) rfl ?_ ?_)
    · intro D9 h9 F10 N10 hlt10
      have hsl : (strValues ((Str.ofString "", s.toks) :: l8)).toArray = (#[Value.str (Str.ofString "") s.toks].toList ++ (strValues l8).toArray.toList).toArray := rfl
      rw [← hsl] at N10
      have N11 : News g L h9 (cellsL L o1 o2 o3 o4 o5 o6 o7 o8 ((D9, W.listOf (strValues ((Str.ofString "", s.toks) :: l8)).toArray 0) :: imm)) := by
        intro p hp
        refine N10 p ?_
        revert p
        delta cellsL
        repeat (refine List.forall_mem_cons.2 ⟨by k_mem, ?_⟩)
        intro p hp
        repeat (first | assumption | apply List.Mem.tail)
      have hp9 : Past L ((D9, W.listOf (strValues ((Str.ofString "", s.toks) :: l8)).toArray 0) :: imm) := .cons (past_cells (o1 := o1) (o2 := o2) (o3 := o3) (o4 := o4) (o5 := o5) (o6 := o6) (o7 := o7) (o8 := o8) (r := []) fun q hq => Nat.ne_of_lt (hlt10 q (by
        revert q
        delta cellsL
        repeat (refine List.forall_mem_cons.2 ⟨by k_mem, ?_⟩)
        intro p hp; cases hp))) hpa
      have hne9 : ∀ p ∈ imm, p.1 ≠ D9 := fun p hp => Nat.ne_of_lt (hlt10 p (by repeat (first | assumption | apply List.Mem.tail)))
      clear N10 N9 F9 hlt10
      delta cellsL at N11
      k_steps
      refine Hold.mk ?_
      (rename Fr _ _ _ _ => F12)
      (rename News _ _ _ _ => N12)
      refine k D9 _ _ _ ((Str.ofString "", s.toks) :: l8) a b c ha hab hbc hc ?_ (by assumption) F12 N12 hp9 hne9
      rw [List.map_cons, hl8, hss]
      show Str.ofString "" :: _ = Str.empty :: _
      rw [show Str.ofString "" = Str.empty by decide +kernel]
    · rw [sizeLine_eq]
      have e8 := congrArg List.length hl8
      rw [List.length_map, hss] at e8
      simp only [strValues, List.length_map, e8, List.length_cons, List.length_nil]
      lia
end
theorem kw_LC_z : True := by
  k_with_none
  trivial
end Mine
end

section
open PySem PySem.W PySem.Spec PySem.Calls PyProof.Rows PyProof.Rows.LCg PyProof.Rows.LCt
set_option Elab.async false
set_option maxRecDepth 100000
namespace Mine
def kz (xs : List Int) : List Int := (total xs).fmod 3 :: (nums xs).map fun x => (x.fdiv 8).fmod 3
def kdOf (xs : List Int) (v : Nat) : Nat := ((kz xs).getD v 0).toNat + 1
theorem kz_len (xs : List Int) : (kz xs).length = many xs := by unfold kz many; simp
theorem kz_bound (xs : List Int) : ∀ z ∈ kz xs, 0 ≤ z ∧ z < 3 := fun z hz => by
  have e : ∀ x : Int, x.fmod 3 = x % 3 := fun x => Int.fmod_eq_emod_of_nonneg _ (by decide)
  unfold kz at hz
  rcases List.mem_cons.mp hz with rfl | hz
  · rw [e]; lia
  · obtain ⟨x, _, rfl⟩ := List.mem_map.mp hz
    rw [e]; lia
section
variable {w : World} {mean : ExcName → Option Value} {mg mb : Str → Option Value}
theorem kw_LD_1 : True := by
  k_with_none
  k_with "execs cons" => (k_here; (with_reducible show wpAny _ _ (execs (Stmt.Assign [Expr.Name (Str.ofString "seen") _] _ _ :: _) _) _ _ _); refine Hold.out ?_)
  k_with "eval ListComp" => (k_here; k_dflt (refine LCg.ListComp_U (F₀ := by k_asm) (by with_unfolding_all rfl) (by decide) (by rfl) (by decide) (by rfl) ?_))
  k_with "CompSrc" => (k_here; refine Hold.out ?_)
  k_with "binaryOp Add ref ref" => (k_here; refine Hold.out ?_)
  k_with "subscriptTail Name BinOp ref int" => (k_here; refine Hold.out ?_)
  k_with "storeName" => (k_here; k_dflt (refine storeX_C (by k_asm) (by k_asm) (by rfl) (by (first | exact updC1 (by with_reducible assumption) | exact updC2 (by with_reducible assumption) | exact updC3 (by with_reducible assumption) | exact updC4 (by with_reducible assumption) | exact updC5 (by with_reducible assumption) | exact updC6 (by with_reducible assumption) | exact updC7 (by with_reducible assumption) | exact updC8 (by with_reducible assumption))) (by k_asm) ?_; intro _ _ _ kzN _; (try dsimp only at kzN)))
  trivial
set_option maxHeartbeats 4000000 in
theorem stageC2 {s : Shared} {g : Heap} {L fa : Addr} {cd : Value} (X : (hd.heap_39 w.params).In g) (T : Top PV LO mean mg mb g) {xs : List Int} {tt : Tok} {sa nu : Addr} {ws : List Value} {sgl : List (Str × Tok)} {a b c : Nat}
    {m : Str → Option Value} {o1 o2 o3 o4 o5 o6 o7 o8 : Obj} {imm : List (Addr × Obj)} (F : Fr g L s.heap m) (hm1 : m "numbers" = some (.ref nu)) (N : News g L s.heap (cellsL L o1 o2 o3 o4 o5 o6 o7 o8 imm)) (hpa : Past L imm)
    (c1 : o1.data = .cell (some (.int (total xs) tt))) (c3 : o3.data = .cell (some (.ref sa))) (c4 : o4.data = .cell none) (c5 : o5.data = .cell none) (c6 : o6.data = .cell none) (hnu : (nu, W.listOf ws.toArray 0) ∈ imm) (hws : IntsAre ws (nums xs)) (hsa : (sa, W.listOf (strValues sgl).toArray 0) ∈ imm) (hsg : sgl.map (·.1) = sgOf a b c) {Q : Flow → Shared → Prop}
    (k : ∀ (ka na ba : Addr) (o4' o5' o6' bo : Obj) (h : Heap) (tk : Tok) (kvs : List Value) (nl : List (Str × Tok)), IntsAre kvs (kz xs) → nl.map (·.1) = (List.range (many xs)).map (fun v => (sgOf a b c).getD (kdOf xs v) Str.empty) →
      o4'.data = .cell (some (.ref ka)) → o5'.data = .cell (some (.ref na)) → o6'.data = .cell (some (.ref ba)) → bo.IsDictOf (IK w) [] → (ba == sysModules) = false → Fr g L h (fun y => if y = Str.ofString "numbers" then some (.ref nu) else m y) → 
      News g L h (cellsL L o1 o2 o3 o4' o5' o6' o7 o8 ((ba, bo) :: (na, lst (strValues nl)) :: (ka, W.listOf kvs.toArray 0) :: imm)) → Past L ((ba, bo) :: (na, lst (strValues nl)) :: (ka, W.listOf kvs.toArray 0) :: imm) → (∀ p ∈ (na, lst (strValues nl)) :: (ka, W.listOf kvs.toArray 0) :: imm, p.1 ≠ ba) →
      wpAny (MD w) (lawA L fa cd) (execs lawDef.body.tail.tail.tail.tail.tail.tail.tail.tail.tail (lawE L fa cd)) Q NE { s with heap := h, toks := tk }) :
    wpAny (MD w) (lawA L fa cd) (execs lawDef.body.tail.tail.tail.tail.tail.tail (lawE L fa cd)) Q NE s := by
  have hnl := nums_len xs
  have hwl := hws.length
  rw [norm1 hm1] at F
  revert k
  delta lawA lawE lawDef getDef
  dsimp only [List.tail_cons] at *
  intro k
  delta cellsL at N
  k_steps
  refine Hold.mk ?_
  (rename Fr _ _ _ _ => F1)
  obtain ⟨nw0, hnw0, N1⟩ : ∃ nw0, nw0 = _ ∧ News g L _ nw0 := ⟨_, rfl, by (rename News _ _ _ _ => N1); exact N1⟩
  refine CompSrc.ledger (ax := nu) (its := ws.toArray) (k := 0) rfl F1 N1 (by rw [hnw0]; repeat (first | assumption | apply List.Mem.tail)) (by rw [sizeLine_eq, List.size_toArray]; lia) ?_
  intro h5
  refine comp_inv (fun i ys nw => nw = nw0 ∧ IntsAre ys (((nums xs).take i).map fun x => (x.fdiv 8).fmod 3)) ?_ ?_ _ _ _ _ (Nat.zero_add _) ⟨rfl, .nil⟩
  · rintro i ys nw x I oI C oC D3 m2 h6 tk6 hi3 ⟨rfl, hys⟩ hx hoC hm2x F6 N6 hoff hne3
    rw [List.getElem?_toArray] at hx
    obtain ⟨z, tz, rfl, hz⟩ := IntsAre.at hws i x hx
    rw [hnw0] at N6 hoff
    show wpAny _ _ _ _ _ _
    k_fold
    k_steps
    (rename Fr _ _ _ _ => F9)
    (rename News _ _ _ _ => N9)
    refine ⟨_, _, _, rfl, F9, N9, hoff, .inr ⟨_, by (repeat (first | assumption | apply List.Mem.tail)), rfl, _, rfl⟩, hnw0.symm, ?_⟩
    rw [List.take_add_one, hz, Option.toList_some, List.map_append]
    exact IntsAre.append hys (.cons _ _ .nil)
  · rintro ys nw ⟨rfl, hys⟩ D3 h6 tk6 F6 N6 hoff
    rw [hnw0] at N6 hoff
    k_steps
    refine Hold.mk ?_
    (rename Fr _ _ _ _ => F7)
    (rename News _ _ _ _ => N7)
    rw [List.take_of_length_le (by rw [List.size_toArray]; lia)] at hys
    k_dflt (refine kmk_add_ints (vs := [Value.int ((total xs).fmod 3) _]) (ns := [(total xs).fmod 3]) F7 N7 (News.isList N7 (.tail _ (.head _))) (News.isList N7 (.head _)) (.cons _ _ .nil) hys ?_ ?_)
    · intro D4 us h8 F8 N8 hlt8 hus
      clear F7 N7
      obtain ⟨N9, hp9, hne9⟩ := park N8 (fun p hp => .tail _ (.tail _ hp)) (fun p hp => Nat.ne_of_lt (hlt8 p hp)) hpa
      clear N8 hlt8
      have hkz : IntsAre us (kz xs) := hus
      delta cellsL at N9
      k_steps
      refine Hold.mk ?_
      (rename Fr _ _ _ _ => F10)
      obtain ⟨nw1, hnw1, N10⟩ : ∃ nw1, nw1 = _ ∧ News g L _ nw1 := ⟨_, rfl, by (rename News _ _ _ _ => N1); exact N1⟩
      have hul := hkz.length
      have hkzl := kz_len xs
      refine CompSrc.ledger (ax := D4) (its := us.toArray) (k := 0) rfl F10 N10 (by rw [hnw1]; k_mem) (by unfold many at hkzl; rw [sizeLine_eq, List.size_toArray]; lia) ?_
      intro h11
      refine comp_inv (fun i ys nw => nw = nw1 ∧ ∃ l : List (Str × Tok), ys = strValues l ∧ l.map (·.1) = (List.range i).map fun v => (sgOf a b c).getD (kdOf xs v) Str.empty) ?_ ?_ _ _ _ _ (Nat.zero_add _) ⟨rfl, [], rfl, rfl⟩
      · rintro i ys nw x I oI C oC D5 m3 h12 tk12 hi3 ⟨rfl, ls, rfl, hls⟩ hx hoC hm2x F6 N6 hoff hne3
        rw [List.getElem?_toArray] at hx
        obtain ⟨z, tz, rfl, hz⟩ := IntsAre.at hkz i x hx
        have hzb := kz_bound xs z (List.mem_of_getElem? hz)
        have hkd : kdOf xs i = (z + 1).toNat := by unfold kdOf; rw [List.getD_eq_getElem?_getD, hz, Option.getD_some]; lia
        have hsl : sgl.length = 4 := by have := congrArg List.length hsg; simpa [sgOf] using this
        obtain ⟨q, hq⟩ : ∃ q, sgl[(z + 1).toNat]? = some q := ⟨_, List.getElem?_eq_getElem (by lia)⟩
        have hq1 : (sgOf a b c).getD (kdOf xs i) Str.empty = q.1 := by
          rw [hkd, List.getD_eq_getElem?_getD, ← hsg, List.getElem?_map, hq]; rfl
        rw [hnw1] at N6 hoff
        show wpAny _ _ _ _ _ _
        k_fold
        k_steps
        refine Hold.mk ?_
        (rename Fr _ _ _ _ => F13)
        (rename News _ _ _ _ => N13)
        k_dflt (refine' item_lst (its := (strValues sgl).toArray) (x := .str q.1 q.2) ?ya1 ?ya2 ?ya3 ?ya4 ?_; (case ya1 => exact News.isList N13 (by repeat (first | assumption | apply List.Mem.tail))); (case ya2 => lia); (case ya3 => lia); (case ya4 => rw [List.getElem?_toArray, strValues, List.getElem?_map, hq]; rfl))
        k_steps
        (rename Fr _ _ _ _ => F14)
        (rename News _ _ _ _ => N14)
        refine ⟨_, _, _, rfl, F14, N14, hoff, .inr ⟨_, by k_mem, rfl, _, rfl⟩, hnw1.symm, ls ++ [q], by simp [strValues], ?_⟩
        rw [List.map_append, hls, List.range_succ, List.map_append, List.map_singleton, List.map_singleton, hq1]
      · rintro ys nw ⟨rfl, ls, rfl, hls⟩ D5 h12 tk12 F6 N6 hoff
        rw [hnw1] at N6 hoff
        obtain ⟨N14, hp14, hne14⟩ := park N6 (fun p hp => hp) (fun p hp => off1_mem hoff p hp) hp9
        clear N6
        delta cellsL at N14
        k_steps
        (rename Fr _ _ _ _ => F15)
        (rename News _ _ _ _ => N15)
        (rename _ ∧ _ => hl15)
        (rename Obj.IsDictOf (intKind _ _) _ [] => hbd)
        obtain ⟨N16, hp16, hne16⟩ := park N15 (fun p hp => hp) (fun p hp => allLt_at hp hl15) hp14
        clear N15 hl15
        delta cellsL at N16
        k_steps
        refine Hold.mk ?_
        (rename Fr _ _ _ _ => F17)
        (rename News _ _ _ _ => N17)
        exact k D4 D5 _ _ _ _ _ _ _ us ls hkz (by rw [hls, List.size_toArray, ← hkzl, hul]) (by assumption) (by assumption) (by assumption) hbd (by assumption) F17 N17 hp16 hne16
    · rw [List.length_map, sizeLine_eq]; show 1 + _ ≤ _; lia
end
theorem kw_LD_z : True := by
  k_with_none
  trivial
end Mine
end

section
open PySem PySem.W PySem.Spec PySem.Calls PyProof.Rows PyProof.Rows.LCg
set_option Elab.async false
set_option maxRecDepth 100000
namespace Mine
theorem book_ext {g h h0 : Heap} {L : Addr} {m : Str → Option Value} {n : Nat} {sg : List Str} {M : Nat → Int → Rows} {tl : List (Addr × Obj)} {kvs0 : List (Int × Value)} (F : Fr g L h m) (hg0 : ∀ a o, g.get? a = some o → h0.get? a = some o) (hL0 : ∃ o, h0.get? L = some o) (B0 : BookOk (TupL g tl) kvs0 n sg M) : ∀ (kvs : List (Int × Value)), BookOk (IsTup h) kvs n sg M → (∀ e ∈ kvs, e ∈ kvs0 ∨ ∃ t : Addr, e.2 = .ref t ∧ h0.get? t = none) →
    ∃ ex : List (Addr × Obj), News g L h ex ∧ BookOk (TupL g (tl ++ ex)) kvs n sg M ∧ ∀ p ∈ ex, h0.get? p.1 = none
  | [], _, _ => ⟨[], (fun _ h => nomatch h), (fun _ h => nomatch h), (fun _ h => nomatch h)⟩
  | e :: r, hb, hn => by
    obtain ⟨ex, N, B, C⟩ := book_ext F hg0 hL0 B0 r (fun x hx => hb x (.tail _ hx)) (fun x hx => hn x (.tail _ hx))
    rcases hn e (.head _) with h1 | ⟨t0, h1, h2⟩
    · refine ⟨ex, N, fun y hy => ?_, C⟩
      rcases List.mem_cons.mp hy with rfl | hy
      · obtain ⟨v, u, t, tb, tn, a, b, c, d, x⟩ := B0 _ h1
        exact ⟨v, u, t, tb, tn, a, b, c, d, x.mono (fun _ h => List.mem_append_left _ h) fun _ _ h => h⟩
      · exact B y hy
    · obtain ⟨v, u, t, tb, tn, a, b, c, d, x⟩ := hb e (.head _)
      obtain ⟨o, ho, hc, k, hd⟩ := id x
      subst d
      have ht : t = t0 := Value.ref.inj h1
      subst ht
      refine ⟨(t, o) :: ex, fun p hp => ?_, fun y hy => ?_, fun p hp => ?_⟩
      · rcases List.mem_cons.mp hp with rfl | hp
        · refine ⟨ho, fun q => ?_, ?_⟩
          · obtain ⟨oL, hL⟩ := hL0
            dsimp only at q
            rw [q, hL] at h2; cases h2
          · cases q : g.get? t with
            | none => rfl
            | some o' => rw [hg0 _ _ q] at h2; cases h2
        · exact N p hp
      · rcases List.mem_cons.mp hy with rfl | hy
        · exact ⟨v, u, t, tb, tn, a, b, c, rfl, o, List.mem_append_right _ (.head _), hc, k, hd⟩
        · obtain ⟨v', u', t', tb', tn', a', b', c', d', x'⟩ := B y hy
          refine ⟨v', u', t', tb', tn', a', b', c', d', x'.mono (fun p hp => ?_) fun _ _ h => h⟩
          rcases List.mem_append.mp hp with hp | hp
          · exact List.mem_append_left _ hp
          · exact List.mem_append_right _ (.tail _ hp)
      · rcases List.mem_cons.mp hp with rfl | hp
        · exact h2
        · exact C p hp
structure BookIn (w : World) (n : Nat) (sg : List Str) (M : Nat → Int → Rows) (g : Heap) (imm tl : List (Addr × Obj)) (ba : Addr) (bo : Obj) (kvs : List (Int × Value)) : Prop where
  dict : bo.IsDictOf (IK w) kvs
  ok : BookOk (TupL g tl) kvs n sg M
  sub : ∀ p ∈ imm, p ∈ tl
  off : ∀ p ∈ tl, p.1 ≠ ba
section
variable {w : World} {mean : ExcName → Option Value} {mg mb : Str → Option Value}
theorem mails_at {A : Around} {s : Shared} {g : Heap} {L : Addr} {m : Str → Option Value} {n : Nat} {nb : Nat → List Nat} {kd : Nat → Nat} {sg : List Str} {M : Nat → Int → Rows} {dep : Nat → Int → Nat} (H : Net n nb kd sg M dep) {ta na ba : Addr} {bo : Obj} {kvs : List (Int × Value)} {pre imm tl : List (Addr × Obj)} {Q : Value → Shared → Prop}
    (X : (hd.heap_39 w.params).In g) (T : Top PV LO mean mg mb g) (d : Nat) (hd : A.depth + d + 3 < recursionLimit) (hA : A.handled = none) (hbm : (ba == sysModules) = false) (F : Fr g L s.heap m) (N : News g L s.heap (pre ++ (ba, bo) :: tl)) (hpre : ∀ p ∈ pre, p.1 ≠ ba)
    (hti : Held imm g fun h => TiesAt h ta n nb) (hnm : Held imm g fun h => NamesAt h na n kd sg) (B : BookIn w n sg M g imm tl ba bo kvs) {v : Nat} {u : Int} (hv : v < n) (hu : -1 ≤ u) (hun : u < n) (hdep : dep v u < d) (tv tu : Tok)
    (k : ∀ h' tk' bo' kvs' ex t tb tn, Fr g L h' m → News g L h' (pre ++ (ba, bo') :: (tl ++ ex)) → BookIn w n sg M g imm (tl ++ ex) ba bo' kvs' → TupL g (tl ++ ex) t (mailTup sg (M v u) tb tn) → (∀ p ∈ ex, s.heap.get? p.1 = none) → Q (.ref t) { s with heap := h', toks := tk' }) :
    wpAny (MD w) A (call (.ref 81) [.int v tv, .int u tu, .ref ta, .ref na, .ref ba]) Q NE s := by
  have hba := N (ba, bo) (List.mem_append_right _ (.head _))
  have hgn : g.get? ba = none := hba.2.2
  have stg : g.StaysIn (hideAll s.heap [ba]) := fun b o e => hideAll_get _ (F.keep b o e) (fun q => by
    rw [List.mem_singleton.mp q, hgn] at e; cases e)
  have himm : ∀ p ∈ imm, (hideAll s.heap [ba]).get? p.1 = some p.2 := fun p hp => hideAll_get _ (N p (List.mem_append_right _ (.tail _ (B.sub p hp)))).1 (fun q => B.off p (B.sub p hp) (List.mem_singleton.mp q))
  have htl : ∀ p ∈ tl, p ∈ pre ++ (ba, bo) :: tl := fun p hp => List.mem_append_right _ (.tail _ hp)
  refine useSpec (mails_spec H hbm d (G := hideAll s.heap [ba]) (X.keeps stg) (T.keeps stg) (fun b o e => of_hideAll _ e) hd hA (hti _ stg himm) (hnm _ stg himm) hba.1 (hideAll_none _ (.head _)) B.dict (B.ok.mono fun t i x => x.isTup F N htl) hv hu hun hdep tv tu) ?_
  rintro val s9 ⟨h9, tk9, bo9, kvs9, t9, tb9, tn9, rfl, hk9, hb9, hbd9, hbk9, hsub9, rfl, hmem9, htup9, hnew9⟩
  have F10 := fr_ext F (b := ba) hk9 hba.2.1 hgn
  obtain ⟨oL, _, _, hoL, _⟩ := F.ns
  obtain ⟨ex, Nx, Bx, Cx⟩ := book_ext F10 F.keep ⟨oL, hoL⟩ B.ok kvs9 hbk9 hnew9
  obtain ⟨v', u', t', tb', tn', a', b', c', d', x'⟩ := Bx _ hmem9
  obtain ⟨e1, e2⟩ := key_inj H.n8 hv a' hu hun b' c' (Prod.mk.inj d').1
  subst e1 e2
  have e3 := Value.ref.inj (Prod.mk.inj d').2
  subst e3
  refine k h9 tk9 bo9 kvs9 ex _ tb' tn' F10 (fun p hp => ?_) ⟨hbd9, Bx, fun p hp => List.mem_append_left _ (B.sub p hp), fun p hp => ?_⟩ x' Cx
  · rcases List.mem_append.mp hp with hp' | hp
    · exact ⟨hk9 _ _ (hpre p hp') (N p (List.mem_append_left _ hp')).1, (N p (List.mem_append_left _ hp')).2⟩
    · rcases List.mem_cons.mp hp with rfl | hp
      · exact ⟨hb9, hba.2⟩
      · rcases List.mem_append.mp hp with hp | hp
        · exact ⟨hk9 _ _ (B.off p hp) (N p (htl p hp)).1, (N p (htl p hp)).2⟩
        · exact Nx p hp
  · rcases List.mem_append.mp hp with hp | hp
    · exact B.off p hp
    · intro q
      have := Cx p hp
      rw [q, hba.1] at this; cases this
end
end Mine
end

section
open PySem PySem.W PySem.Spec PySem.Calls PyProof.Rows PyProof.Rows.LCg PyProof.Rows.LCt
set_option Elab.async false
set_option maxRecDepth 100000
namespace Mine
def SeenAt (g : Heap) (tl : List (Addr × Obj)) (n : Nat) (sg : List Str) (M : Nat → Int → Rows) (ys : List Value) : Prop := ys.length = n ∧ ∀ v, v < n → ∃ (t : Addr) (tb tn : Tok), ys[v]? = some (.ref t) ∧ TupL g tl t (mailTup sg (M v (-1)) tb tn)
theorem SeenAt.mono {g : Heap} {tl tl' : List (Addr × Obj)} {n : Nat} {sg : List Str} {M : Nat → Int → Rows} {ys : List Value} (x : SeenAt g tl n sg M ys) (k : ∀ p ∈ tl, p ∈ tl') : SeenAt g tl' n sg M ys :=
  ⟨x.1, fun v hv => by obtain ⟨t, tb, tn, a, b⟩ := x.2 v hv; exact ⟨t, tb, tn, a, b.mono k fun _ _ h => h⟩⟩
theorem SeenAt.snoc {g : Heap} {tl tl' : List (Addr × Obj)} {n : Nat} {sg : List Str} {M : Nat → Int → Rows} {ys : List Value} (x : SeenAt g tl n sg M ys) (k : ∀ p ∈ tl, p ∈ tl') {t : Addr} {tb tn : Tok} (h : TupL g tl' t (mailTup sg (M n (-1)) tb tn)) : SeenAt g tl' (n + 1) sg M (ys ++ [.ref t]) := by
  refine ⟨by rw [List.length_append, x.1]; rfl, fun v hv => ?_⟩
  by_cases q : v < n
  · obtain ⟨t', tb', tn', a, b⟩ := x.2 v q
    exact ⟨t', tb', tn', by rw [List.getElem?_append_left (by rw [x.1]; exact q)]; exact a, b.mono k fun _ _ h => h⟩
  · have e : v = n := by lia
    subst e
    exact ⟨t, tb, tn, by rw [List.getElem?_append_right (by rw [x.1]; exact Nat.le_refl _), x.1, Nat.sub_self]; rfl, h⟩
theorem past_new {g h0 : Heap} {L : Addr} {ld ex : List (Addr × Obj)} {o1 o2 o3 o4 o5 o6 o7 o8 : Obj} {r : List (Addr × Obj)} (N : News g L h0 ld) (hs : ∀ p ∈ cellsL L o1 o2 o3 o4 o5 o6 o7 o8 r, p ∈ ld) (hx : ∀ p ∈ ex, h0.get? p.1 = none) : Past L ex := fun p hp =>
  past_cells (o1 := o1) (o2 := o2) (o3 := o3) (o4 := o4) (o5 := o5) (o6 := o6) (o7 := o7) (o8 := o8) (r := r) fun q hq e => by
    have h1 := (N q (hs q hq)).1
    rw [e, hx p hp] at h1; cases h1
section
variable {w : World} {mean : ExcName → Option Value} {mg mb : Str → Option Value}
inductive SJ (cl : List (Addr × Obj) → List (Addr × Obj)) (w : World) (n : Nat) (sg : List Str) (M : Nat → Int → Rows) (g : Heap) (L : Addr) (imm : List (Addr × Obj)) (ba : Addr) (i : Nat) (ys : List Value) (nw : List (Addr × Obj)) : Prop
  | mk : ∀ bo2 kvs2 tl2, nw = cl ((ba, bo2) :: tl2) → BookIn w n sg M g imm tl2 ba bo2 kvs2 → Past L ((ba, bo2) :: tl2) → SeenAt g tl2 i sg M ys → SJ cl w n sg M g L imm ba i ys nw
theorem kw_LE_1 : True := by
  k_with_none
  k_with "execs cons" => (k_here; (with_reducible show wpAny _ _ (execs (Stmt.For (Expr.Tuple [Expr.Name (Str.ofString "bare") _, _] _ _) _ _ _ _ :: _) _) _ _ _); refine Hold.out ?_)
  k_with "eval ListComp" => (k_here; k_dflt (refine LCg.ListComp_U (F₀ := by k_asm) (by with_unfolding_all rfl) (by decide) (by rfl) (by decide) (by rfl) ?_))
  k_with "CompSrc" => (k_here; refine Hold.out ?_)
  k_with "call ref" => (k_here; refine Hold.out ?_)
  trivial
set_option maxHeartbeats 4000000 in
theorem stageD {s : Shared} {g : Heap} {L fa : Addr} {cd : Value} (X : (hd.heap_39 w.params).In g) (T : Top PV LO mean mg mb g) {n : Nat} {nb : Nat → List Nat} {kd : Nat → Nat} {sg : List Str} {M : Nat → Int → Rows} {dep : Nat → Int → Nat} (H : Net n nb kd sg M dep) (hdep : ∀ v, v < n → ∀ u, dep v u < 20) {tn : Tok} {ta na ba : Addr} (hbm : (ba == sysModules) = false)
    {m : Str → Option Value} {o1 o2 o3 o4 o5 o6 o7 o8 bo : Obj} {imm tl : List (Addr × Obj)} {kvs : List (Int × Value)} (F : Fr g L s.heap m) (hm1 : m "many" = some (.int (n : Nat) tn)) (N : News g L s.heap (cellsL L o1 o2 o3 o4 o5 o6 o7 o8 ((ba, bo) :: tl))) (hpa : Past L ((ba, bo) :: tl))
    (c2 : o2.data = .cell (some (.ref ta))) (c5 : o5.data = .cell (some (.ref na))) (c6 : o6.data = .cell (some (.ref ba))) (hti : Held imm g fun h => TiesAt h ta n nb) (hnm : Held imm g fun h => NamesAt h na n kd sg) (B : BookIn w n sg M g imm tl ba bo kvs) {Q : Flow → Shared → Prop}
    (k : ∀ (se : Addr) (bo' : Obj) (h : Heap) (tk : Tok) (kvs' : List (Int × Value)) (tl' : List (Addr × Obj)) (ys : List Value) (m' : Str → Option Value), Fr g L h m' → m' = (fun y => if y = Str.ofString "seen" then some (.ref se) else if y = Str.ofString "many" then some (.int (n : Nat) tn) else m y) →
      News g L h (cellsL L o1 o2 o3 o4 o5 o6 o7 o8 ((se, lst ys) :: (ba, bo') :: tl')) → Past L ((se, lst ys) :: (ba, bo') :: tl') → (∀ p ∈ (ba, bo') :: tl', p.1 ≠ se) → BookIn w n sg M g imm tl' ba bo' kvs' → SeenAt g tl' n sg M ys →
      wpAny (MD w) (lawA L fa cd) (execs lawDef.body.tail.tail.tail.tail.tail.tail.tail.tail.tail.tail (lawE L fa cd)) Q NE { s with heap := h, toks := tk }) :
    wpAny (MD w) (lawA L fa cd) (execs lawDef.body.tail.tail.tail.tail.tail.tail.tail.tail.tail (lawE L fa cd)) Q NE s := by
  have hr0 := range0 n H.n8
  have hn8 := H.n8
  rw [norm1 hm1] at F
  revert k
  delta lawA lawE lawDef getDef
  dsimp only [List.tail_cons] at *
  intro k
  delta cellsL at N
  k_steps
  refine Hold.mk ?_
  (rename Fr _ _ _ _ => F1)
  (rename IsRange _ _ _ _ _ _ _ _ => R1)
  (rename News _ _ _ _ => N1)
  refine CompSrc.range rfl F1 N1 R1 hr0.1 hr0.2 (by rw [sizeLine_eq]; lia) ?_
  clear F1 N1 R1
  intro h5
  refine comp_inv (SJ (cellsL L o1 o2 o3 o4 o5 o6 o7 o8) w n sg M g L imm ba) ?_ ?_ _ _ _ _ (Nat.zero_add _) ⟨bo, kvs, tl, rfl, B, hpa, rfl, fun v hv => absurd hv (Nat.not_lt_zero _)⟩
  · intro i ys nw x I oI C oC D3 m2 h6 tk6 hi3 zzJ zzK hoC hm2x F6 N6 hoff hne3
    refine hidden fun zzG zzH => ?_
    obtain ⟨bo2, kvs2, tl2, rfl, B2, hp2, hS2⟩ := zzJ
    obtain ⟨tx, rfl⟩ := zzK
    delta cellsL at N6 hoff
    refine zzH ?_
    clear zzH zzG
    show wpAny _ _ _ _ _ _
    k_fold
    k_steps
    refine Hold.mk ?_
    (rename Fr _ _ _ _ => F9)
    (rename News _ _ _ _ => N9)
    rw [Int.zero_add]
    have hob := hoff.mem (ba, bo2) (List.mem_append_right (cellsL L o1 o2 o3 o4 o5 o6 o7 o8 []) (.head _))
    refine mails_at (pre := (I, oI) :: (C, oC) :: (D3, lst ys) :: cellsL L o1 o2 o3 o4 o5 o6 o7 o8 []) (m := fun y => if y = Str.ofString "many" then some (.int (n : Nat) tn) else m y) H X T 20 (by show callerA.depth + 1 + 20 + 3 < recursionLimit; decide +kernel) rfl hbm F9 N9 ?_ hti hnm B2 (v := i) (u := -1) hi3 (by lia) (by lia) (hdep i hi3 _) _ _ ?_
    · intro p hp
      rcases List.mem_cons.mp hp with rfl | hp
      · exact Ne.symm hob.1
      rcases List.mem_cons.mp hp with rfl | hp
      · exact Ne.symm hob.2.1
      rcases List.mem_cons.mp hp with rfl | hp
      · exact Ne.symm hob.2.2
      exact cells_off (r := []) (hp2 (ba, bo2) (.head _)) (by intro p hp; cases hp) p hp
    · intro h8 tk8 bo8 kvs8 ex t8 tb8 tn8 F10 N10 B10 ht10 hx10
      refine ⟨_, _, cellsL L o1 o2 o3 o4 o5 o6 o7 o8 ((ba, bo8) :: (tl2 ++ ex)), rfl, F10, N10, ?_, trivial, bo8, kvs8, tl2 ++ ex, rfl, B10, ?_, hS2.snoc (fun p hp => List.mem_append_left _ hp) ht10⟩
      · refine Off3.of fun p hp => ?_
        rcases List.mem_append.mp (show p ∈ cellsL L o1 o2 o3 o4 o5 o6 o7 o8 [] ++ _ from hp) with hp | hp
        · exact hoff.mem p (List.mem_append_left ((ba, bo2) :: tl2) hp)
        · rcases List.mem_cons.mp hp with rfl | hp
          · exact hob
          · rcases List.mem_append.mp hp with hp | hp
            · exact hoff.mem p (List.mem_append_right (cellsL L o1 o2 o3 o4 o5 o6 o7 o8 []) (.tail _ hp))
            · have hz := hx10 p hp
              dsimp only at hz
              refine ⟨fun q => ?_, fun q => ?_, fun q => ?_⟩
              · rw [q, (N9 (I, oI) (.head _)).1] at hz; cases hz
              · rw [q, (N9 (C, oC) (.tail _ (.head _))).1] at hz; cases hz
              · rw [q, (N9 (D3, lst ys) (.tail _ (.tail _ (.head _)))).1] at hz; cases hz
      · exact .cons (hp2 (ba, bo2) (.head _)) (.append (fun p hp => hp2 p (.tail _ hp)) (past_new N9 (fun p hp => .tail _ (.tail _ (.tail _ hp))) hx10))
  · rintro ys nw ⟨bo2, kvs2, tl2, rfl, B2, hp2, hS2⟩ D3 h6 tk6 F6 N6 hoff
    obtain ⟨N7, hp7, hne7⟩ := park N6 (fun p hp => hp) (fun p hp => off1_mem hoff p hp) hp2
    k_steps
    refine Hold.mk ?_
    exact k D3 bo2 _ _ kvs2 tl2 ys _ F6 rfl N7 hp7 hne7 B2 hS2
end
theorem kw_LE_z : True := by
  k_with_none
  trivial
end Mine
end

section
open PySem PySem.W PySem.Spec PySem.Calls PyProof.Rows PyProof.Rows.LCg PyProof.Rows.LCt
set_option Elab.async false
set_option maxRecDepth 100000
namespace Mine
def StripOk (x y : Str) : Prop := x.cps.all (· < 128) = true ∧ x.cps.size ≤ 3000 ∧ endE false x.cps.toList = false ∧ stripT x = y
section
variable {w : World} {mean : ExcName → Option Value} {mg mb : Str → Option Value}
theorem kw_LF_1 : True := by
  k_with_none
  k_with "execs cons" => (k_here; (with_reducible show wpAny _ _ (execs (Stmt.Assign [Expr.Name (Str.ofString "ends") _] _ _ :: _) _) _ _ _); refine Hold.out ?_)
  k_with "exec For" => (k_here; refine Hold.out ?_)
  k_with "call ref" => (k_here; refine Hold.out ?_)
  k_with "subscriptTail Name Slice ref ref" => (k_here; refine Hold.out ?_)
  k_with "pyIter" => (k_here; refine Hold.out ?_)
  k_with "pyIter ref" => (k_here; refine Hold.out ?_)
  trivial
set_option maxHeartbeats 4000000 in
theorem stageE {s : Shared} {g : Heap} {L fa : Addr} {cd : Value} (X : (hd.heap_39 w.params).In g) (T : Top PV LO mean mg mb g) {n : Nat} {sg : List Str} {M : Nat → Int → Rows} {tn : Tok} {se nu : Addr} {ys : List Value} (hn4 : 4 ≤ n ∧ n ≤ 8)
    {m : Str → Option Value} {tl : List (Addr × Obj)} (F : Fr g L s.heap m) (hm1 : m "seen" = some (.ref se)) (hm2 : m "many" = some (.int (n : Nat) tn)) (hm3 : m "numbers" = some (.ref nu)) (N : News g L s.heap tl) (hse : (se, lst ys) ∈ tl) (hS : SeenAt g tl n sg M ys)
    (hst : ∀ v, v < n → StripOk (textR sg (M v (-1))) (textR sg (bareR (M v (-1))))) {Q : Flow → Shared → Prop}
    (k : ∀ (h : Heap) (tk : Tok) (gn : Array GenState) (m' : Str → Option Value), (Bare s.gens → Bare gn) → Fr g L h m' → m' "seen" = some (.ref se) → m' "many" = some (.int (n : Nat) tn) → m' "numbers" = some (.ref nu) → News g L h tl →
      wpAny (MD w) (lawA L fa cd) (execs lawDef.body.tail.tail.tail.tail.tail.tail.tail.tail.tail.tail.tail (lawE L fa cd)) Q NE { s with heap := h, toks := tk, gens := gn }) :
    wpAny (MD w) (lawA L fa cd) (execs lawDef.body.tail.tail.tail.tail.tail.tail.tail.tail.tail.tail (lawE L fa cd)) Q NE s := by
  rw [norm1 hm1, norm1 hm2, norm1 hm3] at F
  revert k
  delta lawA lawE lawDef getDef
  dsimp only [List.tail_cons] at *
  intro k
  have hSl := hS.1
  k_steps
  refine Hold.mk ?_
  refine wpAny_For ?_
  k_steps
  refine Hold.mk ?_
  (rename Fr _ _ _ _ => F1)
  (rename News _ _ _ _ => N1)
  k_dflt (refine slice_led F1 N1 (items := ys.toArray) (News.isList N1 hse) .none (.int _ _) ?_ (by with_unfolding_all rfl) (by intro _; with_unfolding_all rfl) (by rw [sizeLine_eq, List.size_toArray]; lia))
  clear F1 N1
  intro D4 h4 hD4 F4 N4
  have hp4 : slicePick ys.toArray none (some 4) none = (ys.take 4).toArray := pick_take ys 4
  rw [hp4] at N4
  k_steps
  refine Hold.mk ?_
  refine' loop_pair (l := D4) (items := (ys.take 4).toArray) (fun i m' ld => ld = (D4, W.listOf (ys.take 4).toArray 0) :: tl ∧ m' "seen" = some (.ref se) ∧ m' "many" = some (.int (n : Nat) tn) ∧ m' "numbers" = some (.ref nu)) ?hh ?hka ?hkb ?hlo ?hcls F4 N4 ?J0 ?hL ?hT ?turn ?done
  case hh => exact rfl
  case hka => exact rfl
  case hkb => exact rfl
  case hlo => exact rfl
  case hcls => exact rfl
  case J0 => exact ⟨rfl, rfl, rfl, rfl⟩
  case hL => rintro h m' ld' i ⟨rfl, _⟩ F N; exact News.isList N (.head _)
  case hT =>
    rintro m' ld' i v ⟨rfl, _⟩ hv
    rw [List.getElem?_toArray] at hv
    have hi : i < n := by
      have := (List.getElem?_eq_some_iff.mp hv).1
      rw [List.length_take] at this; lia
    obtain ⟨t, tb, tn, h1, h2⟩ := hS.2 i hi
    have h3 := List.getElem?_take_of_lt (l := ys) (show i < 4 by have := (List.getElem?_eq_some_iff.mp hv).1; rw [List.length_take] at this; lia)
    rw [h3, h1] at hv
    exact ⟨t, _, _, (Option.some.inj hv).symm, (h2.mono (fun p hp => .tail _ hp) fun _ _ h => h).toIn⟩
  case turn =>
    clear F4 N4
    rintro i tup y z m₁ ld₁ it itO h₁ tk₁ gn₁ hbr hv htup ⟨rfl, m1, m2, m3⟩ hne0 hne hlt hcl F N
    rw [List.getElem?_toArray] at hv
    have hi : i < n := by
      have := (List.getElem?_eq_some_iff.mp hv).1
      rw [List.length_take] at this; lia
    obtain ⟨t, tb, tn', h1, h2⟩ := hS.2 i hi
    have h3 := List.getElem?_take_of_lt (l := ys) (show i < 4 by have := (List.getElem?_eq_some_iff.mp hv).1; rw [List.length_take] at this; lia)
    rw [h3, h1] at hv
    obtain rfl := Value.ref.inj (Option.some.inj hv)
    have h4 := h2.isTup F N (fun p hp => .tail _ (.tail _ hp))
    have hyz : y = .str (textR sg (bareR (M i (-1)))) tb ∧ z = .str (textR sg (M i (-1))) tn' := by
      obtain ⟨oa, a1, _, ka, a2⟩ := h4
      obtain ⟨ob, b1, _, kb, b2⟩ := htup
      rw [a1] at b1; cases b1
      rw [a2] at b2
      have e := (Data.seq.inj b2).1
      have e' : [Value.str (textR sg (bareR (M i (-1)))) tb, .str (textR sg (M i (-1))) tn'] = [y, z] := by simpa using congrArg Array.toList e
      simp only [List.cons.injEq, and_true] at e'
      exact ⟨e'.1.symm, e'.2.symm⟩
    obtain ⟨rfl, rfl⟩ := hyz
    rw [norm1 m1, norm1 m2, norm1 m3] at F
    obtain ⟨q1, q2, q3, q4⟩ := hst i hi
    have hq : (textR sg (bareR (M i (-1))) != textR sg (bareR (M i (-1)))) = false := by simp
    show wpAny _ _ _ _ _ _
    k_fold
    k_steps
    refine Hold.mk ?_
    (rename Fr _ _ _ _ => F5)
    (rename News _ _ _ _ => N5)
    refine' useSpec ?va ?vb
    case va =>
      refine' strip_spec (G := g) X T ?vs ?vd rfl _ _ q1 q2 q3
      case vs => exact F5.keep
      case vd => show callerA.depth + 1 + 2 < recursionLimit; decide +kernel
    intro v s9 zzJ
    refine hidden fun zzG zzH => ?_
    obtain ⟨h9, tk9, gs, t9, rfl, hk9, rfl, hbr9⟩ := zzJ
    have F9 := fr_stay F5 hk9
    have N9 := news_stay N5 hk9
    clear F5 N5
    refine zzH ?_
    clear zzH zzG
    rw [q4]
    k_steps
    exact ⟨_, _, _, _, _, rfl, fun h => hbr9 (hbr h), F9, N9, hne, rfl, rfl, rfl, rfl⟩
  case done =>
    clear F4 N4
    rintro m₁ ld₁ h₁ tk₁ gn₁ hbr ⟨rfl, m1, m2, m3⟩ F N
    k_steps
    refine Hold.mk ?_
    exact k _ _ gn₁ m₁ hbr F m1 m2 m3 (news_tail N)
end
theorem kw_LF_z : True := by
  k_with_none
  trivial
end Mine
end

section
open PySem PySem.W PySem.Spec PySem.Calls PyProof.Rows PyProof.Rows.LCg PyProof.Rows.LCt
set_option Elab.async false
set_option maxRecDepth 100000
namespace Mine
def EndsOk (g : Heap) (tl : List (Addr × Obj)) (p : Nat → Nat) (k : Nat) (sg : List Str) (M : Nat → Int → Rows) (ys : List Value) : Prop := ys.length = k ∧ ∀ i, i < k → ∃ (e t1 t2 : Addr) (b1 n1 b2 n2 : Tok), ys[i]? = some (.ref e) ∧ TupL g tl e #[.ref t1, .ref t2] ∧
  TupL g tl t1 (mailTup sg (M (i + 1) ((p (i + 1) : Nat) : Int)) b1 n1) ∧ TupL g tl t2 (mailTup sg (M (p (i + 1)) ((i + 1 : Nat) : Int)) b2 n2)
theorem EndsOk.mono {g : Heap} {tl tl' : List (Addr × Obj)} {p : Nat → Nat} {k : Nat} {sg : List Str} {M : Nat → Int → Rows} {ys : List Value} (x : EndsOk g tl p k sg M ys) (h : ∀ q ∈ tl, q ∈ tl') : EndsOk g tl' p k sg M ys :=
  ⟨x.1, fun i hi => by
    obtain ⟨e, t1, t2, b1, n1, b2, n2, h1, h2, h3, h4⟩ := x.2 i hi
    exact ⟨e, t1, t2, b1, n1, b2, n2, h1, h2.mono h fun _ _ h => h, h3.mono h fun _ _ h => h, h4.mono h fun _ _ h => h⟩⟩
theorem EndsOk.snoc {g : Heap} {tl : List (Addr × Obj)} {p : Nat → Nat} {k : Nat} {sg : List Str} {M : Nat → Int → Rows} {ys : List Value} (x : EndsOk g tl p k sg M ys) {e t1 t2 : Addr} {b1 n1 b2 n2 : Tok} (h2 : TupL g tl e #[.ref t1, .ref t2])
    (h3 : TupL g tl t1 (mailTup sg (M (k + 1) ((p (k + 1) : Nat) : Int)) b1 n1)) (h4 : TupL g tl t2 (mailTup sg (M (p (k + 1)) ((k + 1 : Nat) : Int)) b2 n2)) : EndsOk g tl p (k + 1) sg M (ys ++ [.ref e]) := by
  refine ⟨by rw [List.length_append, x.1]; rfl, fun i hi => ?_⟩
  by_cases q : i < k
  · obtain ⟨e', t1', t2', b1', n1', b2', n2', a1, a2, a3, a4⟩ := x.2 i q
    exact ⟨e', t1', t2', b1', n1', b2', n2', by rw [List.getElem?_append_left (by rw [x.1]; exact q)]; exact a1, a2, a3, a4⟩
  · have e0 : i = k := by lia
    subst e0
    exact ⟨e, t1, t2, b1, n1, b2, n2, by rw [List.getElem?_append_right (by rw [x.1]; exact Nat.le_refl _), x.1, Nat.sub_self]; rfl, h2, h3, h4⟩
section
variable {prog : Program} {w : World} {A : Around} {E : Value → Shared → Prop} {s : Shared} {h₀ : Heap} {L : Addr} {m : Str → Option Value}
theorem append_mid {pre post : List (Addr × Obj)} {D : Addr} {its : Array Value} {kk : Nat} {x : Value} {Q : Value → Shared → Prop} (F : Fr h₀ L s.heap m) (N : News h₀ L s.heap (pre ++ (D, W.listOf its kk) :: post)) (h1 : ∀ p ∈ pre, p.1 ≠ D) (h2 : ∀ p ∈ post, p.1 ≠ D) (hsz : its.size ≤ sizeLine)
    (h : ∀ h', Fr h₀ L h' m → News h₀ L h' (pre ++ (D, W.listOf (its.push x) (kk + 1)) :: post) → Q .none { s with heap := h' }) : wpAny (model prog w) A (call (.builtin "list.append") [.ref D, x]) Q E s := by
  have z := N (D, W.listOf its kk) (List.mem_append_right _ (.head _))
  refine append_at (hsz := hsz) z.1 fun h' hs ho' => h h' (F.change hs z.2.1 z.2.2) fun p hp => ?_
  rcases List.mem_append.mp hp with hp | hp
  · have y := N p (List.mem_append_left _ hp)
    exact ⟨(hs.2 _ (h1 p hp)).trans y.1, y.2⟩
  · rcases List.mem_cons.mp hp with rfl | hp
    · exact ⟨ho', z.2⟩
    · have y := N p (List.mem_append_right _ (.tail _ hp))
      exact ⟨(hs.2 _ (h2 p hp)).trans y.1, y.2⟩
end
section
variable {w : World} {mean : ExcName → Option Value} {mg mb : Str → Option Value}
inductive EJ (cl : List (Addr × Obj) → List (Addr × Obj)) (w : World) (n : Nat) (sg : List Str) (M : Nat → Int → Rows) (g : Heap) (L : Addr) (imm tl : List (Addr × Obj)) (ea se ba nu : Addr) (sv : List Value) (p : Nat → Nat) (tn : Tok) (i : Nat) (m' : Str → Option Value) (ld : List (Addr × Obj)) : Prop
  | mk : ∀ ys kk bo2 kvs2 tl2, ld = cl ((ea, W.listOf (List.toArray ys) kk) :: (se, lst sv) :: (ba, bo2) :: tl2) → BookIn w n sg M g imm tl2 ba bo2 kvs2 → Past L ((ea, W.listOf ys.toArray kk) :: (se, lst sv) :: (ba, bo2) :: tl2) →
    (∀ p ∈ (se, lst sv) :: (ba, bo2) :: tl2, p.1 ≠ ea) → (∀ p ∈ (ba, bo2) :: tl2, p.1 ≠ se) → (∀ p ∈ tl, p ∈ tl2) → EndsOk g tl2 p i sg M ys → m' "seen" = some (.ref se) → m' "many" = some (.int (n : Nat) tn) → m' "numbers" = some (.ref nu) → m' "ends" = some (.ref ea) →
    EJ cl w n sg M g L imm tl ea se ba nu sv p tn i m' ld
theorem kw_LG_1 : True := by
  k_with_none
  k_with "execs cons" => (k_here; (with_reducible show wpAny _ _ (execs (Stmt.For (Expr.Name (Str.ofString "layer") _) _ _ _ _ :: _) _) _ _ _); refine Hold.out ?_)
  k_with "exec For" => (k_here; refine Hold.out ?_)
  k_with "exec For Name Call cons nil" => (k_here; refine Hold.out ?_)
  k_with "call ref" => (k_here; refine Hold.out ?_)
  k_with "subscriptTail Name BinOp ref int" => (k_here; refine Hold.out ?_)
  k_with "pyIter" => (k_here; refine Hold.out ?_)
  k_with "pyIter ref" => (k_here; refine Hold.out ?_)
  k_with "getMethod ref" => (k_here; k_dflt (refine kl_method (by k_asm) (by k_mem) PySem.F.slot_list_append PySem.F.type_list_append ?_))
  k_with "call builtin:list.append" => (k_here; refine Hold.out ?_)
  trivial
set_option maxHeartbeats 4000000 in
theorem stageF {s : Shared} {g : Heap} {L fa : Addr} {cd : Value} (X : (hd.heap_39 w.params).In g) (T : Top PV LO mean mg mb g) {xs : List Int} {nb : Nat → List Nat} {kd : Nat → Nat} {sg : List Str} {M : Nat → Int → Rows} {dep : Nat → Int → Nat} (H : Net (many xs) nb kd sg M dep) (hdep : ∀ v, v < many xs → ∀ u, dep v u < 20) {tn : Tok} {ta na ba se nu : Addr} (hbm : (ba == sysModules) = false) {ws sv : List Value} (hws : IntsAre ws (nums xs))
    {m : Str → Option Value} {o1 o2 o3 o4 o5 o6 o7 o8 bo : Obj} {imm tl : List (Addr × Obj)} {kvs : List (Int × Value)} (F : Fr g L s.heap m) (hm1 : m "seen" = some (.ref se)) (hm2 : m "many" = some (.int (many xs : Nat) tn)) (hm3 : m "numbers" = some (.ref nu)) (N : News g L s.heap (cellsL L o1 o2 o3 o4 o5 o6 o7 o8 ((se, lst sv) :: (ba, bo) :: tl))) (hpa : Past L ((se, lst sv) :: (ba, bo) :: tl)) (hse : ∀ p ∈ (ba, bo) :: tl, p.1 ≠ se)
    (c2 : o2.data = .cell (some (.ref ta))) (c5 : o5.data = .cell (some (.ref na))) (c6 : o6.data = .cell (some (.ref ba))) (hti : Held imm g fun h => TiesAt h ta (many xs) nb) (hnm : Held imm g fun h => NamesAt h na (many xs) kd sg) (hnu : (nu, W.listOf ws.toArray 0) ∈ imm) (B : BookIn w (many xs) sg M g imm tl ba bo kvs) {Q : Flow → Shared → Prop}
    (k : ∀ (ea : Addr) (bo' : Obj) (h : Heap) (tk : Tok) (kvs' : List (Int × Value)) (tl' : List (Addr × Obj)) (ys : List Value) (kk : Nat) (m' : Str → Option Value), Fr g L h m' → m' "seen" = some (.ref se) → m' "many" = some (.int (many xs : Nat) tn) → m' "ends" = some (.ref ea) →
      News g L h (cellsL L o1 o2 o3 o4 o5 o6 o7 o8 ((ea, W.listOf ys.toArray kk) :: (se, lst sv) :: (ba, bo') :: tl')) → Past L ((ea, W.listOf ys.toArray kk) :: (se, lst sv) :: (ba, bo') :: tl') → (∀ p ∈ imm, p ∈ tl') → (∀ p ∈ tl, p ∈ tl') → EndsOk g tl' (parOf xs) (nums xs).length sg M ys →
      wpAny (MD w) (lawA L fa cd) (execs lawDef.body.tail.tail.tail.tail.tail.tail.tail.tail.tail.tail.tail.tail.tail (lawE L fa cd)) Q NE { s with heap := h, toks := tk }) :
    wpAny (MD w) (lawA L fa cd) (execs lawDef.body.tail.tail.tail.tail.tail.tail.tail.tail.tail.tail.tail (lawE L fa cd)) Q NE s := by
  have hnl := nums_len xs
  have hmy : many xs = (nums xs).length + 1 := rfl
  have hitem : ∀ i, i < (nums xs).length → ∃ z tz, ws.toArray[(((i + 1 : Nat) : Int) - 1 : Int).toNat]? = some (.int z tz) ∧ (nums xs)[i]? = some z := fun i hi2 => by
    have hwl := hws.length
    have hx : ws[i]? = some ws[i] := List.getElem?_eq_getElem (by lia)
    obtain ⟨z, tz, e1, e2⟩ := IntsAre.at hws i _ hx
    refine ⟨z, tz, ?_, e2⟩
    rw [show (((i + 1 : Nat) : Int) - 1 : Int).toNat = i by lia, List.getElem?_toArray, hx, e1]
  rw [norm1 hm1, norm1 hm2, norm1 hm3] at F
  revert k
  delta lawA lawE lawDef getDef
  dsimp only [List.tail_cons] at *
  intro k
  delta cellsL at N
  k_steps
  refine Hold.mk ?_
  (rename Fr _ _ _ _ => F1)
  (rename News _ _ _ _ => N1)
  (rename _ ∧ _ => hl1)
  obtain ⟨N2, hp2, hne2⟩ := park N1 (fun p hp => hp) (fun p hp => allLt_at hp hl1) hpa
  clear N1 hl1
  refine wpAny_For ?_
  k_steps
  refine Hold.mk ?_
  (rename Fr _ _ _ _ => F3)
  (rename IsRange _ _ _ _ _ _ _ _ => R3)
  obtain ⟨ea, hea, N3⟩ : ∃ ea : Addr, (∀ p ∈ (se, lst sv) :: (ba, bo) :: tl, p.1 ≠ ea) ∧ (Fr g L _ fun y => if y = Str.ofString "ends" then some (.ref ea) else if y = Str.ofString "seen" then some (.ref se) else if y = Str.ofString "many" then some (.int (many xs : Nat) tn) else if y = Str.ofString "numbers" then some (.ref nu) else m y) ∧ Past L ((ea, W.listOf #[] 0) :: (se, lst sv) :: (ba, bo) :: tl) ∧ News g L _ (cellsL L o1 o2 o3 o4 o5 o6 o7 o8 ((ea, W.listOf #[] 0) :: (se, lst sv) :: (ba, bo) :: tl)) := ⟨_, hne2, F3, hp2, by (rename News _ _ _ _ => N3); exact N3⟩
  obtain ⟨F4, hp4, N4⟩ := N3
  clear hp2 hne2
  have hr1 := range1 (nums xs).length hnl.2
  have hcast : ((many xs : Nat) : Int) = (((nums xs).length : Nat) : Int) + 1 := by rw [hmy]; lia
  rw [← hcast] at hr1
  have hpl := par_lt xs
  refine' loop_range (n := (nums xs).length) (EJ (cellsL L o1 o2 o3 o4 o5 o6 o7 o8) w (many xs) sg M g L imm tl ea se ba nu sv (parOf xs) tn) ?hh ?hkx ?hlo ?hcls F4 N4 ?J0 R3 hr1.1 hr1.2 ?turn ?done
  case hh => exact rfl
  case hkx => exact rfl
  case hlo => exact rfl
  case hcls => exact rfl
  case J0 => exact ⟨[], 0, bo, kvs, tl, rfl, B, hp4, hea, hse, fun _ h => h, ⟨rfl, fun i hi => absurd hi (Nat.not_lt_zero _)⟩, rfl, rfl, rfl, rfl⟩
  case turn =>
    clear F3 F4 N4 R3
    intro i tv m₁ ld₁ it itO h₁ tk₁ hi2 zzJ hne hlt0 hcl F N
    refine hidden fun zzG zzH => ?_
    obtain ⟨ys, kk, bo2, kvs2, tl2, rfl, B2, hp2, hea2, hse2, hsub2, hE, m1, m2, m3, m4⟩ := zzJ
    rw [norm1 m1, norm1 m2, norm1 m3, norm1 m4, show (1 : Int) + (i : Nat) = ((i + 1 : Nat) : Int) by lia] at F
    delta cellsL at N
    obtain ⟨z, tz, hz1, hz2⟩ := hitem i hi2
    have hzb := nums_bound xs z (List.mem_of_getElem? hz2)
    have hzf : z.fmod ((i + 1 : Nat) : Int) = ((parOf xs (i + 1) : Nat) : Int) := by
      unfold parOf
      rw [Nat.add_sub_cancel, List.getD_eq_getElem?_getD, hz2, Option.getD_some, Int.fmod_eq_emod_of_nonneg _ (by lia), Int.natCast_emod, Int.toNat_of_nonneg hzb.1]
    have hw1 : parOf xs (i + 1) < i + 1 := hpl _ (by lia)
    refine zzH ?_
    clear zzH zzG
    show wpAny _ _ _ _ _ _
    k_fold
    k_steps
    refine Hold.mk ?_
    (rename Fr _ _ _ _ => F5)
    (rename News _ _ _ _ => N5)
    have hnuN : (nu, W.listOf ws.toArray 0) ∈ (it, itO) :: cellsL L o1 o2 o3 o4 o5 o6 o7 o8 ((ea, W.listOf ys.toArray kk) :: (se, lst sv) :: (ba, bo2) :: tl2) := .tail _ (List.mem_append_right (cellsL L o1 o2 o3 o4 o5 o6 o7 o8 []) (.tail _ (.tail _ (.tail _ (B2.sub _ hnu)))))
    k_dflt (refine' item_lst (its := ws.toArray) ?yy1 ?yy2 ?yy3 hz1 ?_; (case yy1 => exact News.isList N5 hnuN); (case yy2 => lia); (case yy3 => lia))
    k_steps
    refine Hold.mk ?_
    (rename Fr _ _ _ _ => F6)
    (rename News _ _ _ _ => N6)
    rw [hzf] at F6 ⊢
    have hpre : ∀ p ∈ (it, itO) :: cellsL L o1 o2 o3 o4 o5 o6 o7 o8 [(ea, W.listOf ys.toArray kk), (se, lst sv)], p.1 ≠ ba := fun p hp => by
      rcases List.mem_cons.mp hp with rfl | hp
      · exact fun q => hne (ba, bo2) (List.mem_append_right (cellsL L o1 o2 o3 o4 o5 o6 o7 o8 []) (.tail _ (.tail _ (.head _)))) q.symm
      refine cells_off (hp2 (ba, bo2) (.tail _ (.tail _ (.head _)))) (fun p hp => ?_) p hp
      rcases List.mem_cons.mp hp with rfl | hp
      · exact fun q => hea2 (ba, bo2) (.tail _ (.head _)) q.symm
      · rw [List.mem_singleton.mp hp]
        exact fun q => hse2 (ba, bo2) (.head _) q.symm
    refine mails_at (pre := (it, itO) :: cellsL L o1 o2 o3 o4 o5 o6 o7 o8 [(ea, W.listOf ys.toArray kk), (se, lst sv)]) H X T 20 (by show callerA.depth + 1 + 20 + 3 < recursionLimit; decide +kernel) rfl hbm F6 N6 hpre hti hnm B2 (v := i + 1) (u := ((parOf xs (i + 1) : Nat) : Int)) (by lia) (by lia) (by lia) (hdep _ (by lia) _) _ _ ?_
    intro h7 tk7 bo7 kvs7 ex7 t7 tb7 tn7 F7 N7 B7 ht7 hx7
    clear F6
    delta cellsL at N7
    dsimp only [List.cons_append, List.nil_append] at N7
    k_steps
    refine Hold.mk ?_
    (rename Fr _ _ _ _ => F8)
    (rename News _ _ _ _ => N8)
    refine mails_at (pre := (it, itO) :: cellsL L o1 o2 o3 o4 o5 o6 o7 o8 [(ea, W.listOf ys.toArray kk), (se, lst sv)]) H X T 20 (by show callerA.depth + 1 + 20 + 3 < recursionLimit; decide +kernel) rfl hbm F8 N8 hpre hti hnm B7 (v := parOf xs (i + 1)) (u := ((i + 1 : Nat) : Int)) (by lia) (by lia) (by lia) (hdep _ (by lia) _) _ _ ?_
    intro h9 tk9 bo9 kvs9 ex9 t9 tb9 tn9 F9 N9 B9 ht9 hx9
    have hex7 : ∀ p ∈ ex7, ∀ q ∈ (it, itO) :: cellsL L o1 o2 o3 o4 o5 o6 o7 o8 ((ea, W.listOf ys.toArray kk) :: (se, lst sv) :: (ba, bo2) :: tl2), p.1 ≠ q.1 := fun p hp q hq e => by
      have z1 := hx7 p hp
      have z2 := (N6 q hq).1
      rw [e] at z1
      dsimp only at z1
      rw [z1] at z2; cases z2
    have hex9 : ∀ p ∈ ex9, ∀ q ∈ (it, itO) :: cellsL L o1 o2 o3 o4 o5 o6 o7 o8 ((ea, W.listOf ys.toArray kk) :: (se, lst sv) :: (ba, bo7) :: tl2), p.1 ≠ q.1 := fun p hp q hq e => by
      have z1 := hx9 p hp
      have hq' : q ∈ (it, itO) :: cellsL L o1 o2 o3 o4 o5 o6 o7 o8 ((ea, W.listOf ys.toArray kk) :: (se, lst sv) :: (ba, bo7) :: (tl2 ++ ex7)) := by
        rcases List.mem_append.mp (show q ∈ ((it, itO) :: cellsL L o1 o2 o3 o4 o5 o6 o7 o8 [(ea, W.listOf ys.toArray kk), (se, lst sv), (ba, bo7)]) ++ tl2 from hq) with h | h
        · exact List.mem_append_left (tl2 ++ ex7) h
        · exact List.mem_append_right ((it, itO) :: cellsL L o1 o2 o3 o4 o5 o6 o7 o8 [(ea, W.listOf ys.toArray kk), (se, lst sv), (ba, bo7)]) (List.mem_append_left _ h)
      have z2 := (N8 q hq').1
      rw [e] at z1
      dsimp only at z1
      rw [z1] at z2; cases z2
    clear F8
    delta cellsL at N9
    dsimp only [List.cons_append, List.nil_append] at N9
    k_steps
    refine Hold.mk ?_
    (rename Fr _ _ _ _ => F10)
    (rename News _ _ _ _ => N10)
    (rename _ ∧ _ => hl10)
    rename_i D hh
    have hlD := allLt_go (d := D) (l := (it, itO) :: cellsL L o1 o2 o3 o4 o5 o6 o7 o8 ((ea, W.listOf ys.toArray kk) :: (se, lst sv) :: (ba, bo9) :: (tl2 ++ ex7 ++ ex9))) hl10
    have hmA : ∀ q ∈ cellsL L o1 o2 o3 o4 o5 o6 o7 o8 [(ea, W.listOf ys.toArray kk), (se, lst sv)], q ∈ (it, itO) :: cellsL L o1 o2 o3 o4 o5 o6 o7 o8 ((ea, W.listOf ys.toArray kk) :: (se, lst sv) :: (ba, bo2) :: tl2) := fun q hq => .tail _ (List.mem_append_left ((ba, bo2) :: tl2) hq)
    have hmA7 : ∀ q ∈ cellsL L o1 o2 o3 o4 o5 o6 o7 o8 [(ea, W.listOf ys.toArray kk), (se, lst sv)], q ∈ (it, itO) :: cellsL L o1 o2 o3 o4 o5 o6 o7 o8 ((ea, W.listOf ys.toArray kk) :: (se, lst sv) :: (ba, bo7) :: tl2) := fun q hq => .tail _ (List.mem_append_left ((ba, bo7) :: tl2) hq)
    have hmE : (ea, W.listOf ys.toArray kk) ∈ cellsL L o1 o2 o3 o4 o5 o6 o7 o8 [(ea, W.listOf ys.toArray kk), (se, lst sv)] := List.mem_append_right (cellsL L o1 o2 o3 o4 o5 o6 o7 o8 []) (.head _)
    have hmS : (se, lst sv) ∈ cellsL L o1 o2 o3 o4 o5 o6 o7 o8 [(ea, W.listOf ys.toArray kk), (se, lst sv)] := List.mem_append_right (cellsL L o1 o2 o3 o4 o5 o6 o7 o8 []) (.tail _ (.head _))
    have hoffx : ∀ p ∈ tl2 ++ ex7 ++ ex9, p.1 ≠ ea ∧ p.1 ≠ se ∧ p.1 ≠ it := fun p hp => by
      rcases List.mem_append.mp hp with hp | hp
      · rcases List.mem_append.mp hp with hp | hp
        · exact ⟨hea2 p (.tail _ (.tail _ hp)), hse2 p (.tail _ hp), hne p (List.mem_append_right (cellsL L o1 o2 o3 o4 o5 o6 o7 o8 []) (.tail _ (.tail _ (.tail _ hp))))⟩
        · exact ⟨hex7 p hp _ (hmA _ hmE), hex7 p hp _ (hmA _ hmS), hex7 p hp _ (.head _)⟩
      · exact ⟨hex9 p hp _ (hmA7 _ hmE), hex9 p hp _ (hmA7 _ hmS), hex9 p hp _ (.head _)⟩
    have hpx : Past L (tl2 ++ ex7 ++ ex9) := by
      refine .append (.append (fun p hp => hp2 p (.tail _ (.tail _ (.tail _ hp)))) fun p hp => ?_) fun p hp => ?_
      · exact past_cells fun q hq e => hex7 p hp q (hmA q hq) e.symm
      · exact past_cells fun q hq e => hex9 p hp q (hmA7 q hq) e.symm
    refine append_mid (pre := (D, _) :: (it, itO) :: cellsL L o1 o2 o3 o4 o5 o6 o7 o8 []) F10 N10 ?_ ?_ (by rw [sizeLine_eq, List.size_toArray, hE.1]; lia) ?_
    · intro p hp
      rcases List.mem_cons.mp hp with rfl | hp
      · exact fun q => absurd (hlD (ea, W.listOf ys.toArray kk) (.tail _ (List.mem_append_right (cellsL L o1 o2 o3 o4 o5 o6 o7 o8 []) (.head _)))) (by dsimp only at q ⊢; rw [q]; exact Nat.lt_irrefl _)
      rcases List.mem_cons.mp hp with rfl | hp
      · exact fun q => hne (ea, W.listOf ys.toArray kk) (List.mem_append_right (cellsL L o1 o2 o3 o4 o5 o6 o7 o8 []) (.head _)) q.symm
      exact cells_off (r := []) (hp2 (ea, W.listOf ys.toArray kk) (.head _)) (by intro p hp; cases hp) p hp
    · intro p hp
      rcases List.mem_cons.mp hp with rfl | hp
      · exact hea2 (se, lst sv) (.head _)
      rcases List.mem_cons.mp hp with rfl | hp
      · exact hea2 (ba, bo2) (.tail _ (.head _))
      exact (hoffx p hp).1
    · intro h11 F11 N11
      k_steps
      have hpu : ys.toArray.push (Value.ref D) = (ys ++ [Value.ref D]).toArray := by simp
      rw [hpu] at N11
      have hDne : ∀ q ∈ (it, itO) :: cellsL L o1 o2 o3 o4 o5 o6 o7 o8 ((ea, W.listOf ys.toArray kk) :: (se, lst sv) :: (ba, bo9) :: (tl2 ++ ex7 ++ ex9)), D ≠ q.1 := fun q hq => Ne.symm (Nat.ne_of_lt (hlD q hq))
      have hsubT : ∀ p ∈ tl2 ++ ex7 ++ ex9, p ∈ (D, ({ cls := Value.type "tuple", data := Data.seq #[Value.ref t7, Value.ref t9] } : Obj)) :: (tl2 ++ ex7 ++ ex9) := fun p hp => .tail _ hp
      have hsub7 : ∀ p ∈ tl2 ++ ex7, p ∈ tl2 ++ ex7 ++ ex9 := fun p hp => List.mem_append_left _ hp
      have hPD : Past L ((ea, W.listOf (ys ++ [Value.ref D]).toArray (kk + 1)) :: (se, lst sv) :: (ba, bo9) :: (D, ({ cls := Value.type "tuple", data := Data.seq #[Value.ref t7, Value.ref t9] } : Obj)) :: (tl2 ++ ex7 ++ ex9)) :=
        .cons (hp2 (ea, W.listOf ys.toArray kk) (.head _)) (.cons (hp2 (se, lst sv) (.tail _ (.head _))) (.cons (hp2 (ba, bo2) (.tail _ (.tail _ (.head _)))) (.cons (past_cells fun q hq => Ne.symm (hDne q (.tail _ hq))) hpx)))
      refine ⟨_, _, _, cellsL L o1 o2 o3 o4 o5 o6 o7 o8 ((ea, W.listOf (ys ++ [Value.ref D]).toArray (kk + 1)) :: (se, lst sv) :: (ba, bo9) :: (D, { cls := Value.type "tuple", data := Data.seq #[Value.ref t7, Value.ref t9] }) :: (tl2 ++ ex7 ++ ex9)), rfl, F11, ?_, ?_, ys ++ [.ref D], kk + 1, bo9, kvs9, (D, { cls := Value.type "tuple", data := Data.seq #[Value.ref t7, Value.ref t9] }) :: (tl2 ++ ex7 ++ ex9), rfl, ⟨B9.dict, B9.ok.mono fun t i x => x.mono hsubT fun _ _ h => h, fun p hp => hsubT p (B9.sub p hp), ?_⟩, hPD, ?_, ?_, fun p hp => hsubT p (hsub7 p (List.mem_append_left _ (hsub2 p hp))), (hE.mono fun p hp => hsubT p (hsub7 p (List.mem_append_left _ hp))).snoc ⟨_, .head _, rfl, _, rfl⟩ (ht7.mono (fun p hp => hsubT p (hsub7 p hp)) fun _ _ h => h) (ht9.mono hsubT fun _ _ h => h), rfl, rfl, rfl, rfl⟩
      · intro p hp
        refine N11 p ?_
        rcases List.mem_cons.mp hp with rfl | hp
        · exact .tail _ (.head _)
        rcases List.mem_append.mp (show p ∈ cellsL L o1 o2 o3 o4 o5 o6 o7 o8 [] ++ _ from hp) with hp | hp
        · exact .tail _ (.tail _ (List.mem_append_left _ hp))
        rcases List.mem_cons.mp hp with rfl | hp
        · exact .tail _ (.tail _ (List.mem_append_right (cellsL L o1 o2 o3 o4 o5 o6 o7 o8 []) (.head _)))
        rcases List.mem_cons.mp hp with rfl | hp
        · exact .tail _ (.tail _ (List.mem_append_right (cellsL L o1 o2 o3 o4 o5 o6 o7 o8 []) (.tail _ (.head _))))
        rcases List.mem_cons.mp hp with rfl | hp
        · exact .tail _ (.tail _ (List.mem_append_right (cellsL L o1 o2 o3 o4 o5 o6 o7 o8 []) (.tail _ (.tail _ (.head _)))))
        rcases List.mem_cons.mp hp with rfl | hp
        · exact .head _
        · exact .tail _ (.tail _ (List.mem_append_right (cellsL L o1 o2 o3 o4 o5 o6 o7 o8 []) (.tail _ (.tail _ (.tail _ hp)))))
      · intro p hp
        rcases List.mem_append.mp (show p ∈ cellsL L o1 o2 o3 o4 o5 o6 o7 o8 [] ++ _ from hp) with hp | hp
        · exact hne p (List.mem_append_left ((ea, W.listOf ys.toArray kk) :: (se, lst sv) :: (ba, bo2) :: tl2) hp)
        rcases List.mem_cons.mp hp with rfl | hp
        · exact hne (ea, W.listOf ys.toArray kk) (List.mem_append_right (cellsL L o1 o2 o3 o4 o5 o6 o7 o8 []) (.head _))
        rcases List.mem_cons.mp hp with rfl | hp
        · exact hne (se, lst sv) (List.mem_append_right (cellsL L o1 o2 o3 o4 o5 o6 o7 o8 []) (.tail _ (.head _)))
        rcases List.mem_cons.mp hp with rfl | hp
        · exact hne (ba, bo2) (List.mem_append_right (cellsL L o1 o2 o3 o4 o5 o6 o7 o8 []) (.tail _ (.tail _ (.head _))))
        rcases List.mem_cons.mp hp with rfl | hp
        · exact hDne (it, itO) (.head _)
        · exact (hoffx p hp).2.2
      · intro p hp
        rcases List.mem_cons.mp hp with rfl | hp
        · exact hDne (ba, bo9) (.tail _ (List.mem_append_right (cellsL L o1 o2 o3 o4 o5 o6 o7 o8 []) (.tail _ (.tail _ (.head _)))))
        · exact B9.off p hp
      · intro p hp
        rcases List.mem_cons.mp hp with rfl | hp
        · exact hea2 (se, lst sv) (.head _)
        rcases List.mem_cons.mp hp with rfl | hp
        · exact hea2 (ba, bo2) (.tail _ (.head _))
        rcases List.mem_cons.mp hp with rfl | hp
        · exact hDne (ea, W.listOf ys.toArray kk) (.tail _ (List.mem_append_right (cellsL L o1 o2 o3 o4 o5 o6 o7 o8 []) (.head _)))
        · exact (hoffx p hp).1
      · intro p hp
        rcases List.mem_cons.mp hp with rfl | hp
        · exact hse2 (ba, bo2) (.head _)
        rcases List.mem_cons.mp hp with rfl | hp
        · exact hDne (se, lst sv) (.tail _ (List.mem_append_right (cellsL L o1 o2 o3 o4 o5 o6 o7 o8 []) (.tail _ (.head _))))
        · exact (hoffx p hp).2.1
  case done =>
    clear F3 F4 N4 R3
    intro m₁ ld₁ h₁ tk₁ zzJ F N
    refine hidden fun zzG zzH => ?_
    obtain ⟨ys, kk, bo2, kvs2, tl2, rfl, B2, hp2, hea2, hse2, hsub2, hE, m1, m2, m3, m4⟩ := zzJ
    refine zzH ?_
    clear zzH zzG
    k_steps
    refine Hold.mk ?_
    exact k ea bo2 _ _ kvs2 tl2 ys kk m₁ F m1 m2 m4 N hp2 B2.sub hsub2 hE
end
theorem kw_LG_z : True := by
  k_with_none
  trivial
end Mine
end

section
open PySem PySem.W PySem.Spec PySem.Calls PyProof.Rows PyProof.Rows.LCg PyProof.Rows.LCt
set_option Elab.async false
set_option maxRecDepth 100000
namespace Mine
def forBody : List Stmt → List Stmt
  | .For _ _ b _ _ :: _ => b
  | _ => []
/-- what a layer shows of the mails -/
def layR (lay : Nat) (r : Rows) : Rows := if lay = 0 then bareR r else r
def layC (M : Nat → Int → Rows) (lay : Nat) (v : Nat) (u : Int) : Rows := layR lay (M v u)
theorem lay_item {sg : List Str} {r : Rows} {tb tn : Tok} {lay : Nat} (h : lay < 2) : seqIndex? ((lay : Nat) : Int) ([Value.str (textR sg (bareR r)) tb, .str (textR sg r) tn] : List Value).length = some lay ∧ ∃ t, ([Value.str (textR sg (bareR r)) tb, .str (textR sg r) tn] : List Value)[lay]? = some (.str (strL (mailL sg (layR lay r))) t) := by
  have : lay = 0 ∨ lay = 1 := by lia
  rcases this with rfl | rfl
  · exact ⟨by show seqIndex? ((0 : Nat) : Int) 2 = some 0; decide, tb, rfl⟩
  · exact ⟨by show seqIndex? ((1 : Nat) : Int) 2 = some 1; decide, tn, rfl⟩
structure RowsOk (r : Rows) : Prop where
  row : ∀ p ∈ r, p.2 < 4 ∧ 1 ≤ p.1 ∧ 4 * p.1 + p.2 < 64
  len : r.length ≤ 8
  ne : r ≠ []
theorem RowsOk.lay {r : Rows} (h : RowsOk r) (lay : Nat) : RowsOk (layR lay r) := by
  unfold layR
  split
  · refine ⟨fun p hp => ?_, by unfold bareR; rw [List.length_map]; exact h.len, fun q => h.ne ?_⟩
    · obtain ⟨y, hy, rfl⟩ := List.mem_map.mp hp
      have := h.row y hy
      exact ⟨Nat.zero_lt_succ 3, this.2.1, by show 4 * y.1 + 0 < 64; lia⟩
    · unfold bareR at q
      exact List.map_eq_nil_iff.mp q
  · exact h
def RowsAll (n : Nat) (M : Nat → Int → Rows) : Prop := ∀ v, v < n → ∀ u, RowsOk (M v u)
section
variable {w : World} {mean : ExcName → Option Value} {mg mb : Str → Option Value}
theorem kw_LH_1 : True := by
  k_with_none
  k_with "execs cons" => (k_here; (with_reducible show wpAny _ _ (execs (Stmt.Assign [Expr.Name (Str.ofString "shelf") _] _ _ :: _) _) _ _ _); refine Hold.out ?_)
  k_with "eval ListComp" => (k_here; k_dflt (refine LCg.ListComp_U (F₀ := by k_asm) (by with_unfolding_all rfl) (by decide) (by rfl) (by decide) (by rfl) ?_))
  k_with "CompSrc" => (k_here; refine Hold.out ?_)
  k_with "call ref" => (k_here; refine Hold.out ?_)
  k_with "subscriptTail Name Name ref int" => (k_here; refine Hold.out ?_)
  trivial
set_option maxHeartbeats 4000000 in
theorem body1 {s : Shared} {g : Heap} {L fa : Addr} {cd : Value} (X : (hd.heap_39 w.params).In g) (T : Top PV LO mean mg mb g) {n : Nat} {sg : List Str} {sgl : List (Str × Tok)} {M : Nat → Int → Rows} (S : Signs sg) (hsg : sgl.map (·.1) = sg) (hn8 : n ≤ 8) (hM : RowsAll n M) {lay : Nat} (hlay : lay < 2) {tl0 : Tok} {sa se : Addr} {ns : Nat} {sv : List Value}
    {m : Str → Option Value} {o1 o2 o3 o4 o5 o6 o7 o8 : Obj} {tl : List (Addr × Obj)} (F : Fr g L s.heap m) (hm1 : m "seen" = some (.ref se)) (N : News g L s.heap (cellsL L o1 o2 o3 o4 o5 o6 o7 o8 tl)) (hpa : Past L tl)
    (c3 : o3.data = .cell (some (.ref sa))) (c7 : o7.data = .cell (some (.int (lay : Nat) tl0))) (hsa : (sa, W.listOf (strValues sgl).toArray ns) ∈ tl) (hse : (se, lst sv) ∈ tl) (hS : SeenAt g tl n sg M sv) {Q : Flow → Shared → Prop}
    (k : ∀ (to : Addr) (h : Heap) (tk : Tok) (ts : List Value) (m' : Str → Option Value), IntsAre ts ((List.range n).map fun v => numL (figs (layC M lay v (-1)))) → Fr g L h m' → m' = (fun y => if y = Str.ofString "told" then some (.ref to) else if y = Str.ofString "seen" then some (.ref se) else m y) →
      News g L h (cellsL L o1 o2 o3 o4 o5 o6 o7 o8 ((to, lst ts) :: tl)) → Past L ((to, lst ts) :: tl) →
      wpAny (MD w) (lawA L fa cd) (execs (forBody lawDef.body.tail.tail.tail.tail.tail.tail.tail.tail.tail.tail.tail.tail.tail).tail (lawE L fa cd)) Q NE { s with heap := h, toks := tk }) :
    wpAny (MD w) (lawA L fa cd) (execs (forBody lawDef.body.tail.tail.tail.tail.tail.tail.tail.tail.tail.tail.tail.tail.tail) (lawE L fa cd)) Q NE s := by
  rw [norm1 hm1] at F
  revert k
  delta lawA lawE lawDef getDef
  dsimp only [List.tail_cons, forBody] at *
  intro k
  delta cellsL at N
  have hSl := hS.1
  k_steps
  refine Hold.mk ?_
  (rename Fr _ _ _ _ => F1)
  (rename News _ _ _ _ => N1)
  have hmt : ∀ p ∈ tl, p ∈ cellsL L o1 o2 o3 o4 o5 o6 o7 o8 tl := fun p hp => List.mem_append_right (cellsL L o1 o2 o3 o4 o5 o6 o7 o8 []) hp
  refine CompSrc.ledger (ax := se) (its := sv.toArray) (k := sv.length) rfl F1 N1 (hmt _ hse) (by rw [sizeLine_eq, List.size_toArray]; lia) ?_
  clear F1 N1
  intro h5
  refine comp_inv (fun i ys nw => nw = cellsL L o1 o2 o3 o4 o5 o6 o7 o8 tl ∧ IntsAre ys ((List.range i).map fun v => numL (figs (layC M lay v (-1))))) ?_ ?_ _ _ _ _ (Nat.zero_add _) ⟨rfl, .nil⟩
  · rintro i ys nw x I oI C oC D3 m2 h6 tk6 hi3 ⟨rfl, hys⟩ hx hoC hm2x F6 N6 hoff hne3
    rw [List.size_toArray, hSl] at hi3
    rw [List.getElem?_toArray] at hx
    obtain ⟨t, tb, tn, h1, h2⟩ := hS.2 i hi3
    rw [h1] at hx
    obtain rfl := Option.some.inj hx
    have hli := lay_item (sg := sg) (r := M i (-1)) (tb := tb) (tn := tn) hlay
    obtain ⟨hl1, tq, hl2⟩ := hli
    delta cellsL at N6 hoff
    show wpAny _ _ _ _ _ _
    k_fold
    k_steps
    refine Hold.mk ?_
    (rename Fr _ _ _ _ => F7)
    (rename News _ _ _ _ => N7)
    have hm3 : ∀ p ∈ tl, p ∈ (I, oI) :: (C, oC) :: (D3, lst ys) :: cellsL L o1 o2 o3 o4 o5 o6 o7 o8 tl := fun p hp => .tail _ (.tail _ (.tail _ (hmt p hp)))
    k_dflt (refine item_tupleT (h2.isTup F7 N7 hm3) (by lia) (by lia) hl1 hl2 ?_)
    k_steps
    refine Hold.mk ?_
    (rename Fr _ _ _ _ => F8)
    (rename News _ _ _ _ => N8)
    have hrk := (hM i hi3 (-1)).lay lay
    refine' calm_use ?va F8 N8 ?vb
    case va =>
      refine' number_spec (ns := ns) X T ?vs ?vd rfl S hsg ?hsa ?hr hrk.ne hrk.len _
      case vs => exact F8.keep
      case vd => show callerA.depth + 1 + 2 < recursionLimit; decide +kernel
      case hsa => exact (N8 _ (hm3 _ hsa)).1
      case hr => exact fun r hr => ⟨(hrk.row r hr).1, (hrk.row r hr).2.2⟩
    rintro h9 tk9 _ ⟨t9, rfl⟩ F9 N9
    refine ⟨_, _, cellsL L o1 o2 o3 o4 o5 o6 o7 o8 tl, rfl, F9, N9, hoff, .inr ⟨_, hmt _ hse, rfl, _, rfl⟩, rfl, ?_⟩
    rw [List.range_succ, List.map_append]
    exact IntsAre.append hys (.cons _ _ .nil)
  · rintro ys nw ⟨rfl, hys⟩ D3 h6 tk6 F6 N6 hoff
    obtain ⟨N7, hp7, hne7⟩ := park N6 (fun p hp => hp) (fun p hp => off1_mem hoff p hp) hpa
    k_steps
    refine Hold.mk ?_
    rw [List.size_toArray, hSl] at hys
    exact k D3 _ _ ys _ hys F6 rfl N7 hp7
end
theorem kw_LH_z : True := by
  k_with_none
  trivial
end Mine
end

section
open PySem PySem.W PySem.Spec PySem.Calls PyProof.Rows PyProof.Rows.LCg
set_option Elab.async false
set_option maxRecDepth 100000
namespace Mine
section
variable {w : World} {mean : ExcName → Option Value} {mg mb : Str → Option Value}
theorem view_at {A : Around} {s : Shared} {g : Heap} {L : Addr} {m : Str → Option Value} {n : Nat} {nb : Nat → List Nat} {kk : Nat → Int} {C : Nat → Int → Rows} {dep : Nat → Int → Nat} (V : ViewNet n nb kk C dep) {ta ka sh : Addr} {its : Array Value} {kc : Nat} {cs : List Rows} {xss : List (List Int)} {pre post : List (Addr × Obj)} {Q : Value → Shared → Prop}
    (X : (hd.heap_39 w.params).In g) (T : Top PV LO mean mg mb g) (d : Nat) (hd : A.depth + d + 3 < recursionLimit) (hun : A.units + 3 * d + 20 < cLine) (hA : A.handled = none) (F : Fr g L s.heap m) (N : News g L s.heap (pre ++ (sh, W.listOf its kc) :: post)) (hpre : ∀ p ∈ pre, p.1 ≠ sh) (hpost : ∀ p ∈ post, p.1 ≠ sh)
    (hti : Held (pre ++ post) g fun h => TiesAt h ta n nb) (hki : Held (pre ++ post) g fun h => KindsAt h ka n kk) (hsh : ShelfAt (LstIn g post) its xss) (hok : ShelfOk n nb kk C cs xss) {v : Nat} {u : Int} (hv : v < n) (hu : -1 ≤ u) (hu2 : u < n) (hdep : dep v u < d) (tv tu : Tok)
    (k : ∀ h' tk' its' kc' xss' ex exc i t, Fr g L h' m → News g L h' (pre ++ (sh, W.listOf its' kc') :: (post ++ ex)) → ShelfAt (LstIn g (post ++ ex)) its' xss' → ShelfOk n nb kk C (cs ++ exc) xss' → (∀ p ∈ ex, s.heap.get? p.1 = none) → (cs ++ exc)[i]? = some (C v u) → Q (.int (i : Nat) t) { s with heap := h', toks := tk' }) :
    wpAny (MD w) A (call (.ref 91) [.int v tv, .int u tu, .ref ta, .ref ka, .ref sh]) Q NE s := by
  have hba := N (sh, W.listOf its kc) (List.mem_append_right _ (.head _))
  have hgn : g.get? sh = none := hba.2.2
  have stg : g.StaysIn (hideAll s.heap [sh]) := fun b o e => hideAll_get _ (F.keep b o e) (fun q => by
    rw [List.mem_singleton.mp q, hgn] at e; cases e)
  have hin : ∀ p ∈ pre ++ post, (hideAll s.heap [sh]).get? p.1 = some p.2 := fun p hp => by
    rcases List.mem_append.mp hp with hp | hp
    · exact hideAll_get _ (N p (List.mem_append_left _ hp)).1 (fun q => hpre p hp (List.mem_singleton.mp q))
    · exact hideAll_get _ (N p (List.mem_append_right _ (.tail _ hp))).1 (fun q => hpost p hp (List.mem_singleton.mp q))
  have hpo : ∀ p ∈ post, p ∈ pre ++ (sh, W.listOf its kc) :: post := fun p hp => List.mem_append_right _ (.tail _ hp)
  refine useSpec (view_spec V d (G := hideAll s.heap [sh]) (X.keeps stg) (T.keeps stg) (fun b o e => of_hideAll _ e) hd hun hA (hti _ stg hin) (hki _ stg hin) hba.1 (hideAll_none _ (.head _)) (hsh.mono fun l xs x => x.at F N hpo) hok hv hu hu2 hdep tv tu) ?_
  rintro val s9 ⟨h9, tk9, its9, k9, xss9, ex9, i9, t9, rfl, hk9, hs9, hsh9, hok9, hfr9, rfl, hci⟩
  have F10 := fr_ext F (b := sh) hk9 hba.2.1 hgn
  obtain ⟨oL, _, _, hoL, _⟩ := F.ns
  obtain ⟨e9, Nex, Se, De⟩ := shelf_news (its := its) (lsts := post) F10 ⟨oL, hoL⟩ F.keep (fun y hy => by
    obtain ⟨j, l', xs, e1, e2, e3, e4⟩ := shelf_ref hsh hy
    exact ⟨l', xs, e1, e4⟩) (fun p hp => hk9 _ _ (hpost p hp) (N p (hpo p hp)).1) hsh9 hfr9
  exact k h9 tk9 its9 k9 xss9 e9 ex9 i9 t9 F10 (news_swap N hk9 hs9 hpre hpost Nex) Se hok9 De hci
end
end Mine
end

section
open PySem PySem.W PySem.Spec PySem.Calls PyProof.Rows PyProof.Rows.LCg PyProof.Rows.LCt
set_option Elab.async false
set_option maxRecDepth 100000
namespace Mine
section
variable {w : World} {mean : ExcName → Option Value} {mg mb : Str → Option Value}
inductive TJ (cl : List (Addr × Obj) → List (Addr × Obj)) (g : Heap) (L : Addr) (tl : List (Addr × Obj)) (sh : Addr) (n : Nat) (nb : Nat → List Nat) (kk : Nat → Int) (C : Nat → Int → Rows) (i : Nat) (ys : List Value) (nw : List (Addr × Obj)) : Prop
  | mk : ∀ its kc xss cs lsts (ids : List Nat), nw = cl ((sh, W.listOf its kc) :: (tl ++ lsts)) → ShelfAt (LstIn g (tl ++ lsts)) its xss → ShelfOk n nb kk C cs xss → (∀ p ∈ tl ++ lsts, p.1 ≠ sh) → Past L ((sh, W.listOf its kc) :: (tl ++ lsts)) →
    IntsAre ys (castL ids) → ids.length = i → (∀ v, v < i → ∃ id, ids[v]? = some id ∧ cs[id]? = some (C v (-1))) → TJ cl g L tl sh n nb kk C i ys nw
theorem kw_LI_1 : True := by
  k_with_none
  k_with "execs cons" => (k_here; (with_reducible show wpAny _ _ (execs (Stmt.For (Expr.Name (Str.ofString "v") _) _ _ _ _ :: _) _) _ _ _); refine Hold.out ?_)
  k_with "eval ListComp" => (k_here; k_dflt (refine LCg.ListComp_U (F₀ := by k_asm) (by with_unfolding_all rfl) (by decide) (by rfl) (by decide) (by rfl) ?_))
  k_with "CompSrc" => (k_here; refine Hold.out ?_)
  k_with "binaryOp Mult int int" => (k_here; k_dflt (refine mul_int ?_ (by with_reducible assumption)))
  k_with "call ref" => (k_here; refine Hold.out ?_)
  k_with "storeName" => (k_here; k_dflt (refine storeX_C (by k_asm) (by k_asm) (by rfl) (by exact .tail (by k_ne) (updC8 (by with_reducible assumption))) (by k_asm) ?_; intro _ _ _ kzN _; (try dsimp only at kzN)))
  trivial
set_option maxHeartbeats 4000000 in
theorem body2 {s : Shared} {g : Heap} {L fa : Addr} {cd : Value} (X : (hd.heap_39 w.params).In g) (T : Top PV LO mean mg mb g) {n : Nat} {nb : Nat → List Nat} {kk : Nat → Int} {C : Nat → Int → Rows} {dep : Nat → Int → Nat} (V : ViewNet n nb kk C dep) (hdep : ∀ v, v < n → ∀ u, dep v u < 20) {lay : Nat} (hlay : lay < 2) {zs : List Int} (hkk : ∀ v, v < n → ∃ z, zs[v]? = some z ∧ kk v = z * (lay : Nat)) (hzl : zs.length = n) {tl0 tn : Tok} {ta ka : Addr} {kvs : List Value} (hkv : IntsAre kvs zs)
    {m : Str → Option Value} {o1 o2 o3 o4 o5 o6 o7 o8 : Obj} {v8 : Option Value} {tl : List (Addr × Obj)} (F : Fr g L s.heap m) (hm1 : m "many" = some (.int (n : Nat) tn)) (N : News g L s.heap (cellsL L o1 o2 o3 o4 o5 o6 o7 o8 tl)) (hpa : Past L tl)
    (c2 : o2.data = .cell (some (.ref ta))) (c4 : o4.data = .cell (some (.ref ka))) (c7 : o7.data = .cell (some (.int (lay : Nat) tl0))) (c8 : o8.data = .cell v8) (hka : (ka, W.listOf kvs.toArray 0) ∈ tl) (hti : Held tl g fun h => TiesAt h ta n nb) {Q : Flow → Shared → Prop}
    (k : ∀ (vi : Addr) (o8' : Obj) (v8' : Option Value) (h : Heap) (tk : Tok) (vs : List Value) (ids : List Nat) (m' : Str → Option Value), IntsAre vs (castL ids) → ids.length = n → (∀ v w, v < n → w < n → (ids.getD v 0 = ids.getD w 0 ↔ C v (-1) = C w (-1))) → o8'.data = .cell v8' → Fr g L h m' → m' = (fun y => if y = Str.ofString "views" then some (.ref vi) else if y = Str.ofString "many" then some (.int (n : Nat) tn) else m y) →
      News g L h (cellsL L o1 o2 o3 o4 o5 o6 o7 o8' ((vi, lst vs) :: tl)) → Past L ((vi, lst vs) :: tl) →
      wpAny (MD w) (lawA L fa cd) (execs (forBody lawDef.body.tail.tail.tail.tail.tail.tail.tail.tail.tail.tail.tail.tail.tail).tail.tail.tail (lawE L fa cd)) Q NE { s with heap := h, toks := tk }) :
    wpAny (MD w) (lawA L fa cd) (execs (forBody lawDef.body.tail.tail.tail.tail.tail.tail.tail.tail.tail.tail.tail.tail.tail).tail (lawE L fa cd)) Q NE s := by
  have hr0 := range0 n V.n8
  have hn8 := V.n8
  rw [norm1 hm1] at F
  revert k
  delta lawA lawE lawDef getDef
  dsimp only [List.tail_cons, forBody] at *
  intro k
  delta cellsL at N
  k_steps
  refine Hold.mk ?_
  (rename Fr _ _ _ _ => F1)
  (rename News _ _ _ _ => N1)
  (rename IsRange _ _ _ _ _ _ _ _ => R1)
  (rename _ ∧ _ => hl1)
  obtain ⟨N2, hp2, hne2⟩ := park N1 (fun p hp => hp) (fun p hp => allLt_at hp hl1) hpa
  clear hl1 N1
  obtain ⟨sh, o8', d8, hp3, hne3, N3⟩ : ∃ (sh : Addr) (o8' : Obj), o8'.data = .cell (some (.ref sh)) ∧ Past L ((sh, W.listOf #[] 0) :: tl) ∧ (∀ p ∈ tl, p.1 ≠ sh) ∧ News g L _ (cellsL L o1 o2 o3 o4 o5 o6 o7 o8' ((sh, W.listOf #[] 0) :: tl)) := ⟨_, _, by assumption, hp2, hne2, N2⟩
  refine CompSrc.range rfl F1 N3 R1 hr0.1 hr0.2 (by rw [sizeLine_eq]; lia) ?_
  clear F1 N2 hp2 hne2 R1
  clear N3
  intro h5
  refine comp_inv (TJ (cellsL L o1 o2 o3 o4 o5 o6 o7 o8') g L tl sh n nb kk C) ?_ ?_ _ _ _ _ (Nat.zero_add _) ⟨#[], 0, [], [], [], [], by rw [List.append_nil], ⟨rfl, fun j xs h => by cases h⟩, ⟨rfl, List.nodup_nil, fun j c xs h => by cases h⟩, by rw [List.append_nil]; exact hne3, by rw [List.append_nil]; exact hp3, .nil, rfl, fun v hv => absurd hv (Nat.not_lt_zero _)⟩
  · intro i ys nw x I oI C2 oC D3 m2 h6 tk6 hi3 zzJ zzK hoC hm2x F6 N6 hoff hne4
    refine hidden fun zzG zzH => ?_
    obtain ⟨its, kc, xss, cs, lsts, ids, rfl, hsh, hok, hpo, hp4, hys, hil, hid⟩ := zzJ
    obtain ⟨tx, rfl⟩ := zzK
    have hoff0 := hoff
    have hN6 := N6
    delta cellsL at N6 hoff
    rw [Int.zero_add] at hm2x
    refine zzH ?_
    clear zzH zzG
    show wpAny _ _ _ _ _ _
    k_fold
    k_steps
    refine Hold.mk ?_
    (rename Fr _ _ _ _ => F7)
    obtain ⟨nw0, hnw0, N7⟩ : ∃ nw0, nw0 = (I, oI) :: (C2, oC) :: (D3, lst ys) :: cellsL L o1 o2 o3 o4 o5 o6 o7 o8' ((sh, W.listOf its kc) :: (tl ++ lsts)) ∧ News g L _ nw0 := ⟨_, rfl, by (rename News _ _ _ _ => N7); exact N7⟩
    have hkvl := hkv.length
    have hmt : ∀ p ∈ tl, p ∈ nw0 := fun p hp => by
      rw [hnw0]; exact .tail _ (.tail _ (.tail _ (List.mem_append_right (cellsL L o1 o2 o3 o4 o5 o6 o7 o8' []) (.tail _ (List.mem_append_left _ hp)))))
    refine CompSrc.ledger (ax := ka) (its := kvs.toArray) (k := 0) rfl F7 N7 (hmt _ hka) (by rw [sizeLine_eq, List.size_toArray]; lia) ?_
    clear F7 N7
    intro h8
    refine comp_inv (fun i2 ys2 nw2 => nw2 = nw0 ∧ IntsAre ys2 ((zs.take i2).map fun z => z * ((lay : Nat) : Int))) ?_ ?_ _ _ _ _ (Nat.zero_add _) ⟨rfl, .nil⟩
    · rintro i2 ys2 nw2 x2 I2 oI2 C3 oC3 D4 m4 h9 tk9 hi9 ⟨rfl, hys2⟩ hx2 hoC3 hm2x3 F9 N9 hoff9 hne9
      rw [List.getElem?_toArray] at hx2
      obtain ⟨z, tz, rfl, hz⟩ := IntsAre.at hkv i2 x2 hx2
      have hmt2 := hmt _ hka
      have hmulok : IntMulOk z ((lay : Nat) : Int) := IntMulOk.of_right (by
        have : lay = 0 ∨ lay = 1 := by lia
        rcases this with rfl | rfl <;> decide +kernel)
      rw [hnw0] at N9 hoff9 hmt2
      delta cellsL at N9 hoff9
      show wpAny _ _ _ _ _ _
      k_fold
      k_steps
      (rename Fr _ _ _ _ => F10)
      (rename News _ _ _ _ => N10)
      refine ⟨_, _, _, rfl, F10, N10, hoff9, .inr ⟨_, hmt2, rfl, _, rfl⟩, hnw0.symm, ?_⟩
      rw [List.take_add_one, hz, Option.toList_some, List.map_append]
      exact IntsAre.append hys2 (.cons _ _ .nil)
    · rintro ys2 nw2 ⟨rfl, hys2⟩ D5 h9 tk9 F9 N9 hoff9
      rw [hnw0] at N9 hoff9
      have hoff90 := hoff9
      delta cellsL at N9 hoff9
      rw [List.take_of_length_le (by rw [List.size_toArray]; lia)] at hys2
      k_steps
      refine Hold.mk ?_
      (rename Fr _ _ _ _ => F10)
      (rename News _ _ _ _ => N10)
      have hobs := hoff0.mem (sh, W.listOf its kc) (List.mem_append_right (cellsL L o1 o2 o3 o4 o5 o6 o7 o8' []) (.head _))
      refine view_at (pre := (D5, lst ys2) :: (I, oI) :: (C2, oC) :: (D3, lst ys) :: cellsL L o1 o2 o3 o4 o5 o6 o7 o8' []) (post := tl ++ lsts) V X T 20 (by show callerA.depth + 1 + 20 + 3 < recursionLimit; decide +kernel) (by show callerA.units + 3 + 3 * 20 + 20 < cLine; decide +kernel) rfl F10 N10 ?_ hpo (hti.mono fun p hp => List.mem_append_right _ (List.mem_append_left _ hp)) ?_ hsh hok hi3 (by lia) (by lia) (hdep i hi3 _) _ _ ?_
      · intro p hp
        rcases List.mem_cons.mp hp with rfl | hp
        · exact fun q => off1_mem hoff90 (sh, W.listOf its kc) (.tail _ (.tail _ (.tail _ (List.mem_append_right (cellsL L o1 o2 o3 o4 o5 o6 o7 o8' []) (.head _))))) q.symm
        rcases List.mem_cons.mp hp with rfl | hp
        · exact Ne.symm hobs.1
        rcases List.mem_cons.mp hp with rfl | hp
        · exact Ne.symm hobs.2.1
        rcases List.mem_cons.mp hp with rfl | hp
        · exact Ne.symm hobs.2.2
        exact cells_off (r := []) (hp4 (sh, W.listOf its kc) (.head _)) (by intro p hp; cases hp) p hp
      · intro h kg ki
        refine ⟨ys2.toArray, ⟨_, ki _ (.head _), rfl, _, rfl⟩, fun v hv => ?_⟩
        obtain ⟨z, hz1, hz2⟩ := hkk v hv
        have hyl := hys2.length
        rw [List.length_map] at hyl
        obtain ⟨n', t', e1, e2⟩ := IntsAre.at hys2 v (ys2[v]'(by lia)) (List.getElem?_eq_getElem (by lia))
        rw [List.getElem?_map, hz1] at e2
        refine ⟨t', ?_⟩
        rw [List.getElem?_toArray, List.getElem?_eq_getElem (by lia), e1, hz2, ← Option.some.inj e2]
      · intro h11 tk11 its11 kc11 xss11 ex11 exc11 i11 t11 F11 N11 hsh11 hok11 hx11 hci11
        have hcon : ∀ p ∈ ex11, ∀ q ∈ (D5, lst ys2) :: (I, oI) :: (C2, oC) :: (D3, lst ys) :: cellsL L o1 o2 o3 o4 o5 o6 o7 o8' ((sh, W.listOf its kc) :: (tl ++ lsts)), p.1 ≠ q.1 := fun p hp q hq e => by
          have z1 := hx11 p hp
          have z2 := (N10 q hq).1
          rw [e] at z1
          dsimp only at z1
          rw [z1] at z2; cases z2
        refine ⟨_, _, cellsL L o1 o2 o3 o4 o5 o6 o7 o8' ((sh, W.listOf its11 kc11) :: (tl ++ (lsts ++ ex11))), rfl, F11, fun p hp => N11 p ?_, ?_, trivial, its11, kc11, xss11, cs ++ exc11, lsts ++ ex11, ids ++ [i11], rfl, by rw [← List.append_assoc]; exact hsh11, hok11, ?_, ?_, ?_, by rw [List.length_append, hil]; rfl, ?_⟩
        · rw [← List.append_assoc] at hp
          exact .tail _ hp
        · refine Off3.of fun p hp => ?_
          rcases List.mem_append.mp (show p ∈ cellsL L o1 o2 o3 o4 o5 o6 o7 o8' [] ++ _ from hp) with hp | hp
          · exact hoff0.mem p (List.mem_append_left ((sh, W.listOf its kc) :: (tl ++ lsts)) hp)
          rcases List.mem_cons.mp hp with rfl | hp
          · exact hobs
          rw [← List.append_assoc] at hp
          rcases List.mem_append.mp hp with hp | hp
          · exact hoff0.mem p (List.mem_append_right (cellsL L o1 o2 o3 o4 o5 o6 o7 o8' []) (.tail _ hp))
          · exact ⟨hcon p hp _ (.tail _ (.head _)), hcon p hp _ (.tail _ (.tail _ (.head _))), hcon p hp _ (.tail _ (.tail _ (.tail _ (.head _))))⟩
        · intro p hp
          rw [← List.append_assoc] at hp
          rcases List.mem_append.mp hp with hp | hp
          · exact hpo p hp
          · exact hcon p hp (sh, W.listOf its kc) (.tail _ (.tail _ (.tail _ (.tail _ (List.mem_append_right (cellsL L o1 o2 o3 o4 o5 o6 o7 o8' []) (.head _))))))
        · rw [← List.append_assoc]
          exact .cons (hp4 (sh, W.listOf its kc) (.head _)) (.append (fun p hp => hp4 p (.tail _ hp)) (past_new N10 (fun p hp => .tail _ (.tail _ (.tail _ (.tail _ hp)))) hx11))
        · have e : castL (ids ++ [i11]) = castL ids ++ [(i11 : Int)] := by unfold castL; rw [List.map_append]; rfl
          rw [e]
          exact IntsAre.append hys (.cons _ _ .nil)
        · intro v hv
          by_cases q : v < i
          · obtain ⟨id, e1, e2⟩ := hid v q
            refine ⟨id, by rw [List.getElem?_append_left (by lia)]; exact e1, ?_⟩
            rw [List.getElem?_append_left (List.getElem?_eq_some_iff.mp e2).1]; exact e2
          · have e0 : v = i := by lia
            subst e0
            exact ⟨i11, by rw [List.getElem?_append_right (by lia), hil, Nat.sub_self]; rfl, hci11⟩
  · rintro ys nw ⟨its, kc, xss, cs, lsts, ids, rfl, hsh, hok, hpo, hp4, hys, hil, hid⟩ D3 h6 tk6 F6 N6 hoff
    have hsub : ∀ p ∈ cellsL L o1 o2 o3 o4 o5 o6 o7 o8' tl, p ∈ cellsL L o1 o2 o3 o4 o5 o6 o7 o8' ((sh, W.listOf its kc) :: (tl ++ lsts)) := fun p hp => by
      rcases List.mem_append.mp (show p ∈ cellsL L o1 o2 o3 o4 o5 o6 o7 o8' [] ++ tl from hp) with hp | hp
      · exact List.mem_append_left ((sh, W.listOf its kc) :: (tl ++ lsts)) hp
      · exact List.mem_append_right (cellsL L o1 o2 o3 o4 o5 o6 o7 o8' []) (.tail _ (List.mem_append_left _ hp))
    obtain ⟨N7, hp7, hne7⟩ := park N6 hsub (fun p hp => off1_mem hoff p hp) hpa
    k_steps
    refine Hold.mk ?_
    refine k D3 o8' _ _ _ ys ids _ hys hil (fun v w hv hw => ?_) d8 F6 rfl N7 hp7
    obtain ⟨i1, a1, a2⟩ := hid v hv
    obtain ⟨i2, b1, b2⟩ := hid w hw
    rw [List.getD_eq_getElem?_getD, List.getD_eq_getElem?_getD, a1, b1, Option.getD_some, Option.getD_some]
    constructor
    · intro e
      rw [e, b2] at a2
      exact (Option.some.inj a2).symm
    · intro e
      rw [e, ← b2] at a2
      exact (List.getElem?_inj (List.getElem?_eq_some_iff.mp (a2.trans b2)).1 hok.2.1).mp a2
end
theorem kw_LI_z : True := by
  k_with_none
  trivial
end Mine
end

section
open PySem PySem.W PySem.Spec PySem.Calls PyProof.Rows PyProof.Rows.LCg PyProof.Rows.LCt
set_option Elab.async false
set_option maxRecDepth 100000
namespace Mine
abbrev layS (sg : List Str) (M : Nat → Int → Rows) (lay v : Nat) : Str := strL (mailL sg (layR lay (M v (-1))))
abbrev numV (M : Nat → Int → Rows) (lay v : Nat) : Int := numL (figs (layC M lay v (-1)))
section
variable {w : World} {mean : ExcName → Option Value} {mg mb : Str → Option Value}
inductive OJ (ld0 : List (Addr × Obj)) (se to vi ea : Addr) (n : Nat) (tn : Tok) (_i : Nat) (m' : Str → Option Value) (ld : List (Addr × Obj)) : Prop
  | mk : ld = ld0 → m' "seen" = some (.ref se) → m' "many" = some (.int (n : Nat) tn) → m' "told" = some (.ref to) → m' "views" = some (.ref vi) → m' "ends" = some (.ref ea) → OJ ld0 se to vi ea n tn _i m' ld
inductive OK2 (ld0 : List (Addr × Obj)) (i : Nat) (tv : Tok) (se to vi ea : Addr) (n : Nat) (tn : Tok) (_j : Nat) (m' : Str → Option Value) (ld : List (Addr × Obj)) : Prop
  | mk : ld = ld0 → m' "v" = some (.int (i : Nat) tv) → m' "seen" = some (.ref se) → m' "many" = some (.int (n : Nat) tn) → m' "told" = some (.ref to) → m' "views" = some (.ref vi) → m' "ends" = some (.ref ea) → OK2 ld0 i tv se to vi ea n tn _j m' ld
theorem kw_LJ_1 : True := by
  k_with_none
  k_with "execs cons" => (k_here; (with_reducible show wpAny _ _ (execs (Stmt.Assign [Expr.Name (Str.ofString "pairs") _] _ _ :: _) _) _ _ _); refine Hold.out ?_)
  k_with "exec For Name Call cons nil" => (k_here; refine Hold.out ?_)
  k_with "pyIter" => (k_here; refine Hold.out ?_)
  k_with "pyIter ref" => (k_here; refine Hold.out ?_)
  k_with "subscriptTail Name Name ref int" => (k_here; k_dflt (refine item_lst (News.isList (by k_asm) (by with_reducible assumption)) (by omega) (by omega) (by with_reducible assumption) ?_))
  k_with "mine sub" => (intro _ hp; repeat (first | assumption | apply List.Mem.tail))
  k_with "subscriptTail Name Name ref int" => (k_here; k_dflt (refine item_tupleT (TupL.flip (by with_reducible assumption) (by k_asm) (by k_asm) (by with_reducible assumption)) (by omega) (by omega) (by with_reducible assumption) (by with_reducible assumption) ?_))
  k_with "call ref" => (k_here; (with_reducible show wpAny _ _ (call (Value.ref 76) _) _ _ _); k_dflt (refine calm_flip (by k_asm) (by k_asm) (strcoll_spec (by assumption) (by assumption) (Fr.keep (by k_asm)) (by (show callerA.depth + 1 + 1 < recursionLimit; decide +kernel)) _ _ _ _) ?_); intro _ _ _ ⟨_, kze⟩ _ _; subst kze)
  trivial
set_option maxHeartbeats 4000000 in
theorem body3 {s : Shared} {g : Heap} {L fa : Addr} {cd : Value} (X : (hd.heap_39 w.params).In g) (T : Top PV LO mean mg mb g) {n : Nat} (hn8 : n ≤ 8) {sg : List Str} {M : Nat → Int → Rows} {lay : Nat} (hlay : lay < 2) {tl0 tn : Tok} {se to vi ea : Addr} {sv ts vs : List Value} {ids : List Nat}
    (hts : IntsAre ts ((List.range n).map fun v => numV M lay v)) (hvs : IntsAre vs (castL ids)) {tl : List (Addr × Obj)} (hil : ids.length = n) (hS : SeenAt g tl n sg M sv)
    (hord : ∀ v w, v < n → w < n → sgn (layS sg M lay v) (layS sg M lay w) = b2i (decide (numV M lay v > numV M lay w)) - b2i (decide (numV M lay v < numV M lay w)))
    (hid : ∀ v w, v < n → w < n → (sgn (layS sg M lay v) (layS sg M lay w) = 0 ↔ ids.getD v 0 = ids.getD w 0))
    {m : Str → Option Value} {o1 o2 o3 o4 o5 o6 o7 o8 : Obj} (F : Fr g L s.heap m) (hm1 : m "seen" = some (.ref se)) (hm2 : m "many" = some (.int (n : Nat) tn)) (hm3 : m "told" = some (.ref to)) (hm4 : m "views" = some (.ref vi)) (hm5 : m "ends" = some (.ref ea)) (N : News g L s.heap (cellsL L o1 o2 o3 o4 o5 o6 o7 o8 tl))
    (c7 : o7.data = .cell (some (.int (lay : Nat) tl0))) (hse : (se, lst sv) ∈ tl) (hto : (to, lst ts) ∈ tl) (hvi : (vi, lst vs) ∈ tl) {Q : Flow → Shared → Prop}
    (k : ∀ (h : Heap) (tk : Tok) (m' : Str → Option Value), Fr g L h m' → m' "seen" = some (.ref se) → m' "many" = some (.int (n : Nat) tn) → m' "told" = some (.ref to) → m' "ends" = some (.ref ea) → News g L h (cellsL L o1 o2 o3 o4 o5 o6 o7 o8 tl) →
      wpAny (MD w) (lawA L fa cd) (execs (forBody lawDef.body.tail.tail.tail.tail.tail.tail.tail.tail.tail.tail.tail.tail.tail).tail.tail.tail.tail (lawE L fa cd)) Q NE { s with heap := h, toks := tk }) :
    wpAny (MD w) (lawA L fa cd) (execs (forBody lawDef.body.tail.tail.tail.tail.tail.tail.tail.tail.tail.tail.tail.tail.tail).tail.tail.tail (lawE L fa cd)) Q NE s := by
  have hr0 := range0 n hn8
  rw [norm1 hm1, norm1 hm2, norm1 hm3, norm1 hm4, norm1 hm5] at F
  revert k
  delta lawA lawE lawDef getDef
  dsimp only [List.tail_cons, forBody] at *
  intro k
  k_steps
  refine Hold.mk ?_
  refine wpAny_For ?_
  k_steps
  refine Hold.mk ?_
  (rename Fr _ _ _ _ => F1)
  (rename News _ _ _ _ => N1)
  (rename IsRange _ _ _ _ _ _ _ _ => R1)
  refine' loop_range (n := n) (OJ (cellsL L o1 o2 o3 o4 o5 o6 o7 o8 tl) se to vi ea n tn) ?hh ?hkx ?hlo ?hcls F1 N1 ?J0 R1 hr0.1 hr0.2 ?turn ?done
  case hh => exact rfl
  case hkx => exact rfl
  case hlo => exact rfl
  case hcls => exact rfl
  case J0 => exact ⟨rfl, rfl, rfl, rfl, rfl, rfl⟩
  case turn =>
    clear F1 N1 R1
    intro i tv m₁ ld₁ it itO h₁ tk₁ hi2 zzJ hne hlt0 hcl F N
    refine hidden fun zzG zzH => ?_
    obtain ⟨rfl, m1, m2, m3, m4, m5⟩ := zzJ
    rw [norm1 m1, norm1 m2, norm1 m3, norm1 m4, norm1 m5, show (0 : Int) + (i : Nat) = ((i : Nat) : Int) by lia] at F
    have hri := range0 i (by lia)
    delta cellsL at N
    refine zzH ?_
    clear zzH zzG
    show wpAny _ _ _ _ _ _
    k_fold
    k_steps
    refine Hold.mk ?_
    refine wpAny_For ?_
    k_steps
    refine Hold.mk ?_
    (rename Fr _ _ _ _ => F3)
    (rename News _ _ _ _ => N3)
    (rename IsRange _ _ _ _ _ _ _ _ => R3)
    refine' loop_range (n := i) (OK2 ((it, itO) :: cellsL L o1 o2 o3 o4 o5 o6 o7 o8 tl) i tv se to vi ea n tn) ?ihh ?ihkx ?ihlo ?ihcls F3 N3 ?iJ0 R3 hri.1 hri.2 ?iturn ?idone
    case ihh => exact rfl
    case ihkx => exact rfl
    case ihlo => exact rfl
    case ihcls => exact rfl
    case iJ0 => exact ⟨rfl, rfl, rfl, rfl, rfl, rfl, rfl⟩
    case iturn =>
      clear F3 N3 R3
      intro j tw m₂ ld₂ it2 itO2 h₂ tk₂ hj2 zzJ hne2 hlt2 hcl2 F N
      refine hidden fun zzG zzH => ?_
      obtain ⟨rfl, p0, p1, p2, p3, p4, p5⟩ := zzJ
      rw [norm1 p0, norm1 p1, norm1 p2, norm1 p3, norm1 p4, norm1 p5, show (0 : Int) + (j : Nat) = ((j : Nat) : Int) by lia] at F
      delta cellsL at N
      obtain ⟨t1, tb1, tn1, a1, a2⟩ := hS.2 i hi2
      obtain ⟨t2, tb2, tn2, b1, b2⟩ := hS.2 j (by lia)
      have e1 : sv.toArray[((i : Nat) : Int).toNat]? = some (.ref t1) := by rw [Int.toNat_natCast, List.getElem?_toArray]; exact a1
      have e2 : sv.toArray[((j : Nat) : Int).toNat]? = some (.ref t2) := by rw [Int.toNat_natCast, List.getElem?_toArray]; exact b1
      obtain ⟨l1, q1, l2⟩ := lay_item (sg := sg) (r := M i (-1)) (tb := tb1) (tn := tn1) hlay
      obtain ⟨l3, q2, l4⟩ := lay_item (sg := sg) (r := M j (-1)) (tb := tb2) (tn := tn2) hlay
      have hsubL : ∀ p ∈ tl, p ∈ (it2, itO2) :: (it, itO) :: cellsL L o1 o2 o3 o4 o5 o6 o7 o8 tl := fun p hp => .tail _ (.tail _ (List.mem_append_right (cellsL L o1 o2 o3 o4 o5 o6 o7 o8 []) hp))
      delta cellsL at hsubL
      have hse' := hsubL _ hse
      have hto' := hsubL _ hto
      have hvi' := hsubL _ hvi
      have ttl := hts.length
      have tvl := hvs.length
      rw [List.length_map, List.length_range] at ttl
      unfold castL at tvl
      rw [List.length_map] at tvl
      have told_at : ∀ v, v < n → ∃ t, ts.toArray[((v : Nat) : Int).toNat]? = some (.int (numV M lay v) t) := fun v hv => by
        obtain ⟨z, t, c1, c2⟩ := IntsAre.at hts v _ (List.getElem?_eq_getElem (show v < ts.length by lia))
        rw [List.getElem?_map, List.getElem?_range hv] at c2
        refine ⟨t, ?_⟩
        rw [Int.toNat_natCast, List.getElem?_toArray, List.getElem?_eq_getElem (show v < ts.length by lia), c1, ← Option.some.inj c2]
      have view_at' : ∀ v, v < n → ∃ t, vs.toArray[((v : Nat) : Int).toNat]? = some (.int ((ids.getD v 0 : Nat) : Int) t) := fun v hv => by
        obtain ⟨z, t, c1, c2⟩ := IntsAre.at hvs v _ (List.getElem?_eq_getElem (show v < vs.length by lia))
        unfold castL at c2
        rw [List.getElem?_map, List.getElem?_eq_getElem (show v < ids.length by lia)] at c2
        refine ⟨t, ?_⟩
        rw [Int.toNat_natCast, List.getElem?_toArray, List.getElem?_eq_getElem (show v < vs.length by lia), c1, ← Option.some.inj c2, List.getD_eq_getElem?_getD, List.getElem?_eq_getElem (show v < ids.length by lia), Option.getD_some]
      obtain ⟨u1, f1⟩ := told_at i hi2
      obtain ⟨u2, f2⟩ := told_at j (by lia)
      obtain ⟨u3, f3⟩ := view_at' i hi2
      obtain ⟨u4, f4⟩ := view_at' j (by lia)
      have ho := hord i j hi2 (by lia)
      have hv := hid i j hi2 (by lia)
      have hq1 : (sgn (strL (mailL sg (layR lay (M i (-1))))) (strL (mailL sg (layR lay (M j (-1))))) != b2i (decide (numV M lay j < numV M lay i)) - b2i (decide (numV M lay i < numV M lay j))) = false := by
        rw [show sgn (strL (mailL sg (layR lay (M i (-1))))) (strL (mailL sg (layR lay (M j (-1))))) = _ from ho]
        show (b2i (decide (numV M lay j < numV M lay i)) - _ != _) = false
        simp
      have hq2 : ((sgn (strL (mailL sg (layR lay (M i (-1))))) (strL (mailL sg (layR lay (M j (-1))))) == 0) != (((ids.getD i 0 : Nat) : Int) == ((ids.getD j 0 : Nat) : Int))) = false := by
        by_cases hz : sgn (strL (mailL sg (layR lay (M i (-1))))) (strL (mailL sg (layR lay (M j (-1))))) = 0
        · rw [hz, hv.mp hz]; simp
        · have h1 : ids.getD i 0 ≠ ids.getD j 0 := fun q => hz (hv.mpr q)
          rw [beq_false_of_ne hz, beq_false_of_ne (show ((ids.getD i 0 : Nat) : Int) ≠ ((ids.getD j 0 : Nat) : Int) by lia)]; rfl
      clear ho hv
      refine zzH ?_
      clear zzH zzG
      show wpAny _ _ _ _ _ _
      k_fold
      k_steps
      (rename Fr _ _ _ _ => F9)
      (rename News _ _ _ _ => N9)
      exact ⟨_, _, _, _, rfl, F9, N9, hne2, rfl, rfl, rfl, rfl, rfl, rfl, rfl⟩
    case idone =>
      clear F3 N3 R3
      intro m₂ ld₂ h₂ tk₂ zzJ F N
      refine hidden fun zzG zzH => ?_
      obtain ⟨rfl, p0, p1, p2, p3, p4, p5⟩ := zzJ
      refine zzH ?_
      clear zzH zzG
      k_steps
      exact ⟨_, _, _, _, rfl, F, N, hne, rfl, p1, p2, p3, p4, p5⟩
  case done =>
    clear F1 N1 R1
    intro m₁ ld₁ h₁ tk₁ zzJ F N
    refine hidden fun zzG zzH => ?_
    obtain ⟨rfl, m1, m2, m3, m4, m5⟩ := zzJ
    refine zzH ?_
    clear zzH zzG
    k_steps
    refine Hold.mk ?_
    exact k _ _ m₁ F m1 m2 m3 m5 N
end
theorem kw_LJ_z : True := by
  k_with_none
  trivial
end Mine
end

section
open PySem PySem.W PySem.Spec PySem.Calls PyProof.Rows PyProof.Rows.LCg PyProof.Rows.LCt
set_option Elab.async false
set_option maxRecDepth 100000
namespace Mine
def pairN (a b : Int) : List Int := if a ≤ b then [a, b] else [b, a]
def endN (M : Nat → Int → Rows) (p : Nat → Nat) (lay i : Nat) : Int := numL (figs (layC M lay (i + 1) ((p (i + 1) : Nat) : Int)))
def endF (M : Nat → Int → Rows) (p : Nat → Nat) (lay i : Nat) : Int := numL (figs (layC M lay (p (i + 1)) ((i + 1 : Nat) : Int)))
def pairsF (M : Nat → Int → Rows) (p : Nat → Nat) (lay : Nat) : Nat → List (List Int)
  | 0 => []
  | i + 1 => if pairN (endN M p lay i) (endF M p lay i) ∈ pairsF M p lay i then pairsF M p lay i else pairsF M p lay i ++ [pairN (endN M p lay i) (endF M p lay i)]
def twinsF (M : Nat → Int → Rows) (p : Nat → Nat) (lay : Nat) : Nat → Nat
  | 0 => 0
  | i + 1 => if endN M p lay i = endF M p lay i then twinsF M p lay i + 1 else twinsF M p lay i
theorem pairsF_len (M : Nat → Int → Rows) (p : Nat → Nat) (lay : Nat) : ∀ i, (pairsF M p lay i).length ≤ i
  | 0 => Nat.le_refl _
  | i + 1 => by
    have := pairsF_len M p lay i
    unfold pairsF; split
    · lia
    · rw [List.length_append]; show _ + 1 ≤ _; lia
theorem pair_sorted {ns : List Int} {a b : Int} (hp : ns.Perm [a, b]) (hs : ns.Pairwise (· ≤ ·)) : ns = pairN a b := by
  have hl := hp.length_eq
  match ns, hl with
  | [x, y], _ =>
    have hxy : x ≤ y := by
      rw [List.pairwise_cons] at hs
      exact hs.1 y (by simp)
    have hx : x = a ∨ x = b := by
      have := hp.mem_iff (a := x)
      simp at this
      exact this
    have hsum : x + y = a + b := by
      have h : ∀ {l1 l2 : List Int}, l1.Perm l2 → l1.sum = l2.sum := fun h => by
        induction h with
        | nil => rfl
        | cons x _ ih => simp [ih]
        | swap x y l => simp; lia
        | trans _ _ h1 h2 => exact h1.trans h2
      have := h hp
      simpa using this
    unfold pairN
    rcases hx with rfl | rfl
    · have : y = b := by lia
      subst this
      rw [if_pos hxy]
    · have : y = a := by lia
      subst this
      by_cases q : y ≤ x
      · have : x = y := by lia
        subst this
        rw [if_pos q]
      · rw [if_neg q]
section
variable {w : World} {mean : ExcName → Option Value} {mg mb : Str → Option Value}
inductive PJ (cl : List (Addr × Obj) → List (Addr × Obj)) (g : Heap) (L : Addr) (tl : List (Addr × Obj)) (pa to se ea : Addr) (n : Nat) (tn : Tok) (pf : Nat → List (List Int)) (tf : Nat → Nat) (i : Nat) (m' : Str → Option Value) (ld : List (Addr × Obj)) : Prop
  | mk : ∀ its kc lsts t, ld = cl ((pa, W.listOf its kc) :: (tl ++ lsts)) → ShelfAt (LstIn g (tl ++ lsts)) its (pf i) → (∀ q ∈ tl ++ lsts, q.1 ≠ pa) → Past L ((pa, W.listOf its kc) :: (tl ++ lsts)) →
    m' "pairs" = some (.ref pa) → m' "twins" = some (.int (tf i : Nat) t) → m' "told" = some (.ref to) → m' "seen" = some (.ref se) → m' "many" = some (.int (n : Nat) tn) → m' "ends" = some (.ref ea) → PJ cl g L tl pa to se ea n tn pf tf i m' ld
theorem kw_LK_1 : True := by
  k_with_none
  k_with "execs cons" => (k_here; (with_reducible show wpAny _ _ (execs (Stmt.If (Expr.Compare (Expr.BinOp _ _ _ _) _ _ _) _ _ _ :: _) _) _ _ _); refine Hold.out ?_)
  k_with "exec For" => (k_here; refine Hold.out ?_)
  k_with "pyIter" => (k_here; refine Hold.out ?_)
  k_with "pyIter ref" => (k_here; refine Hold.out ?_)
  k_with "subscriptTail Name Name ref int" => (k_here; k_dflt (refine item_tupleT (TupL.flip (by with_reducible assumption) (by k_asm) (by k_asm) (by walk_at "mine sub")) (by omega) (by omega) (by with_reducible assumption) (by with_reducible assumption) ?_))
  k_with "mine sub" => (intro _ hp; repeat (first | assumption | (apply List.mem_append_left; assumption) | apply List.Mem.tail))
  k_with "call ref" => (k_here; refine Hold.out ?_)
  k_with "call builtin:sorted" => (k_here; refine Hold.out ?_)
  k_with "compareOp NotIn ref ref" => (k_here; refine Hold.out ?_)
  k_with "subscriptTail Name Constant ref int" => (k_here; k_dflt (refine item_lst (News.isList (by k_asm) (by k_mem)) (by omega) (by omega) (by with_reducible assumption) ?_))
  k_with "getMethod ref" => (k_here; k_dflt (refine kl_method (by k_asm) (by k_mem) PySem.F.slot_list_append PySem.F.type_list_append ?_))
  k_with "call builtin:list.append" => (k_here; refine Hold.out ?_)
  trivial
set_option maxHeartbeats 4000000 in
theorem body4 {s : Shared} {g : Heap} {L fa : Addr} {cd : Value} (X : (hd.heap_39 w.params).In g) (T : Top PV LO mean mg mb g) {n k0 : Nat} (hk7 : k0 ≤ 7) (hkn : k0 < n) {p : Nat → Nat} (hp : ∀ i, i < k0 → p (i + 1) < n) {sg : List Str} {sgl : List (Str × Tok)} {M : Nat → Int → Rows} (S : Signs sg) (hsg : sgl.map (·.1) = sg) (hM : RowsAll n M) {lay : Nat} (hlay : lay < 2) {tl0 : Tok} {to ea sa : Addr} {ys : List Value} {ns ke : Nat} {tl : List (Addr × Obj)} (hE : EndsOk g tl p k0 sg M ys)
    {m : Str → Option Value} {o1 o2 o3 o4 o5 o6 o7 o8 : Obj} (F : Fr g L s.heap m) (hm3 : m "told" = some (.ref to)) (hm5 : m "ends" = some (.ref ea)) {se : Addr} {tn : Tok} (hm1 : m "seen" = some (.ref se)) (hm2 : m "many" = some (.int (n : Nat) tn)) (N : News g L s.heap (cellsL L o1 o2 o3 o4 o5 o6 o7 o8 tl)) (hpa : Past L tl)
    (c3 : o3.data = .cell (some (.ref sa))) (c7 : o7.data = .cell (some (.int (lay : Nat) tl0))) (hsa : (sa, W.listOf (strValues sgl).toArray ns) ∈ tl) (hea : (ea, W.listOf ys.toArray ke) ∈ tl) {Q : Flow → Shared → Prop} {rest : List Stmt}
    (k : ∀ (pa : Addr) (h : Heap) (tk : Tok) (gn : Array GenState) (its : Array Value) (kc : Nat) (t : Tok) (m' : Str → Option Value), (Bare s.gens → Bare gn) → its.size = (pairsF M p lay k0).length → Fr g L h m' → m' "pairs" = some (.ref pa) → m' "twins" = some (.int (twinsF M p lay k0 : Nat) t) → m' "told" = some (.ref to) → m' "seen" = some (.ref se) → m' "many" = some (.int (n : Nat) tn) → m' "ends" = some (.ref ea) →
      News g L h (cellsL L o1 o2 o3 o4 o5 o6 o7 o8 ((pa, W.listOf its kc) :: tl)) → Past L ((pa, W.listOf its kc) :: tl) →
      wpAny (MD w) (lawA L fa cd) (execs (forBody lawDef.body.tail.tail.tail.tail.tail.tail.tail.tail.tail.tail.tail.tail.tail).tail.tail.tail.tail.tail.tail.tail (lawE L fa cd)) Q NE { s with heap := h, toks := tk, gens := gn }) :
    wpAny (MD w) (lawA L fa cd) (execs (forBody lawDef.body.tail.tail.tail.tail.tail.tail.tail.tail.tail.tail.tail.tail.tail).tail.tail.tail.tail (lawE L fa cd)) Q NE s := by
  rw [norm1 hm3, norm1 hm5, norm1 hm1, norm1 hm2] at F
  revert k
  delta lawA lawE lawDef getDef
  dsimp only [List.tail_cons, forBody] at *
  intro k
  delta cellsL at N
  k_steps
  refine Hold.mk ?_
  refine wpAny_For ?_
  k_steps
  refine Hold.mk ?_
  (rename Fr _ _ _ _ => F1)
  (rename News _ _ _ _ => N1)
  (rename _ ∧ _ => hl1)
  obtain ⟨N2, hp2, hne2⟩ := park N1 (fun p hp => hp) (fun p hp => allLt_at hp hl1) hpa
  clear N1 hl1
  obtain ⟨pa, F3, hp3, hne3, N3⟩ : ∃ pa : Addr, (Fr g L _ fun y => if y = Str.ofString "twins" then some (.int ((0 : Nat) : Int) _) else if y = Str.ofString "pairs" then some (.ref pa) else if y = Str.ofString "told" then some (.ref to) else if y = Str.ofString "ends" then some (.ref ea) else if y = Str.ofString "seen" then some (.ref se) else if y = Str.ofString "many" then some (.int (n : Nat) tn) else m y) ∧ Past L ((pa, W.listOf #[] 0) :: tl) ∧ (∀ p ∈ tl, p.1 ≠ pa) ∧ News g L _ (cellsL L o1 o2 o3 o4 o5 o6 o7 o8 ((pa, W.listOf #[] 0) :: tl)) := ⟨_, F1, hp2, hne2, N2⟩
  clear F1 N2 hp2 hne2
  have hmt : ∀ (its : Array Value) (kc : Nat) (lsts : List (Addr × Obj)), ∀ q ∈ tl, q ∈ cellsL L o1 o2 o3 o4 o5 o6 o7 o8 ((pa, W.listOf its kc) :: (tl ++ lsts)) := fun its kc lsts q hq => List.mem_append_right (cellsL L o1 o2 o3 o4 o5 o6 o7 o8 []) (.tail _ (List.mem_append_left _ hq))
  refine' loop_pair (l := ea) (items := ys.toArray) (PJ (cellsL L o1 o2 o3 o4 o5 o6 o7 o8) g L tl pa to se ea n tn (pairsF M p lay) (twinsF M p lay)) ?hh ?hka ?hkb ?hlo ?hcls F3 N3 ?J0 ?hL ?hT ?turn ?done
  case hh => exact rfl
  case hka => exact rfl
  case hkb => exact rfl
  case hlo => exact rfl
  case hcls => exact rfl
  case J0 => exact ⟨#[], 0, [], _, by rw [List.append_nil], ⟨rfl, fun j xs h => by cases h⟩, by rw [List.append_nil]; exact hne3, by rw [List.append_nil]; exact hp3, rfl, rfl, rfl, rfl, rfl, rfl⟩
  case hL => rintro h m' ld' i ⟨its, kc, lsts, t, rfl, _⟩ F N; exact News.isList N (hmt _ _ _ _ hea)
  case hT =>
    rintro m' ld' i v ⟨its, kc, lsts, t, rfl, _⟩ hv
    rw [List.getElem?_toArray] at hv
    have hi : i < k0 := by have := (List.getElem?_eq_some_iff.mp hv).1; rw [hE.1] at this; exact this
    obtain ⟨e, t1, t2, b1, n1, b2, n2, h1, h2, _⟩ := hE.2 i hi
    rw [h1] at hv
    exact ⟨e, _, _, (Option.some.inj hv).symm, (h2.mono (hmt _ _ _) fun _ _ h => h).toIn⟩
  case turn =>
    clear F3 N3
    intro i tup y z m₁ ld₁ it itO h₁ tk₁ gn₁ hbr hv htup zzJ hne0 hne hlt hcl F N
    refine hidden fun zzG zzH => ?_
    obtain ⟨its, kc, lsts, tt, rfl, hsh, hpo, hp4, m1, m2, m3, m4, m5, m6⟩ := zzJ
    rw [List.getElem?_toArray] at hv
    have hi : i < k0 := by have := (List.getElem?_eq_some_iff.mp hv).1; rw [hE.1] at this; exact this
    obtain ⟨e, t1, t2, b1, n1, b2, n2, h1, h2, h3, h4⟩ := hE.2 i hi
    rw [h1] at hv
    obtain rfl := Value.ref.inj (Option.some.inj hv)
    have hsubL : ∀ q ∈ tl, q ∈ (it, itO) :: cellsL L o1 o2 o3 o4 o5 o6 o7 o8 ((pa, W.listOf its kc) :: (tl ++ lsts)) := fun q hq => .tail _ (hmt _ _ _ q hq)
    have h5 := h2.isTup F N hsubL
    have hyz : y = .ref t1 ∧ z = .ref t2 := by
      obtain ⟨oa, a1, _, ka, a2⟩ := h5
      obtain ⟨ob, b1', _, kb, b2'⟩ := htup
      rw [a1] at b1'; cases b1'
      rw [a2] at b2'
      have e := (Data.seq.inj b2').1
      have e' : [Value.ref t1, .ref t2] = [y, z] := by simpa using congrArg Array.toList e
      simp only [List.cons.injEq, and_true] at e'
      exact ⟨e'.1.symm, e'.2.symm⟩
    obtain ⟨rfl, rfl⟩ := hyz
    rw [norm1 m1, norm1 m2, norm1 m3, norm1 m4, norm1 m5, norm1 m6] at F
    obtain ⟨l1, q1, l2⟩ := lay_item (sg := sg) (r := M (i + 1) ((p (i + 1) : Nat) : Int)) (tb := b1) (tn := n1) hlay
    obtain ⟨l3, q2, l4⟩ := lay_item (sg := sg) (r := M (p (i + 1)) ((i + 1 : Nat) : Int)) (tb := b2) (tn := n2) hlay
    have hr1 := (hM (i + 1) (by lia) ((p (i + 1) : Nat) : Int)).lay lay
    have hr2 := (hM (p (i + 1)) (hp i hi) ((i + 1 : Nat) : Int)).lay lay
    delta cellsL at N hsubL
    refine zzH ?_
    clear zzH zzG
    show wpAny _ _ _ _ _ _
    k_fold
    k_steps
    refine Hold.mk ?_
    (rename Fr _ _ _ _ => F5)
    (rename News _ _ _ _ => N5)
    refine' calm_use ?va F5 N5 ?vb
    case va =>
      refine' number_spec (ns := ns) X T ?vs ?vd rfl S hsg ?hsa ?hr hr1.ne hr1.len _
      case vs => exact F5.keep
      case vd => show callerA.depth + 1 + 2 < recursionLimit; decide +kernel
      case hsa => exact (N5 _ (hsubL _ hsa)).1
      case hr => exact fun r hr => ⟨(hr1.row r hr).1, (hr1.row r hr).2.2⟩
    rintro h6 tk6 _ ⟨t6, rfl⟩ F6 N6
    k_steps
    refine Hold.mk ?_
    (rename Fr _ _ _ _ => F7)
    (rename News _ _ _ _ => N7)
    refine' calm_use ?wa F7 N7 ?wb
    case wa =>
      refine' number_spec (ns := ns) X T ?ws ?wd rfl S hsg ?wsa ?wr hr2.ne hr2.len _
      case ws => exact F7.keep
      case wd => show callerA.depth + 1 + 2 < recursionLimit; decide +kernel
      case wsa => exact (N7 _ (hsubL _ hsa)).1
      case wr => exact fun r hr => ⟨(hr2.row r hr).1, (hr2.row r hr).2.2⟩
    rintro h8 tk8 _ ⟨t8, rfl⟩ F8 N8
    k_steps
    refine Hold.mk ?_
    (rename Fr _ _ _ _ => F9)
    (rename News _ _ _ _ => N9)
    (rename _ ∧ _ => hl9)
    rename_i D2 hh9
    have hlD := allLt_go (d := D2) (l := (it, itO) :: cellsL L o1 o2 o3 o4 o5 o6 o7 o8 ((pa, W.listOf its kc) :: (tl ++ lsts))) hl9
    have hN9 : News g L _ ((D2, W.listOf #[Value.int (endN M p lay i) t6, Value.int (endF M p lay i) t8] 0) :: (it, itO) :: cellsL L o1 o2 o3 o4 o5 o6 o7 o8 ((pa, W.listOf its kc) :: (tl ++ lsts))) := N9
    clear N9
    k_dflt (refine kso_sorted (vs := [Value.int (endN M p lay i) t6, Value.int (endF M p lay i) t8]) (ns := [endN M p lay i, endF M p lay i]) F9 hN9 (News.isList hN9 (.head _)) (.cons _ _ (.cons _ _ .nil)) (by show 2 < 64; lia) ?_)
    intro D3 vs3 ns3 c3 h10 F10 N10 hlt10 hi10 hl10 hperm hsrt _
    clear F9 hN9
    obtain rfl := pair_sorted hperm hsrt
    have hD3 : ∀ q ∈ (it, itO) :: cellsL L o1 o2 o3 o4 o5 o6 o7 o8 ((pa, W.listOf its kc) :: (tl ++ lsts)), D3 ≠ q.1 := fun q hq => Ne.symm (Nat.ne_of_lt (hlt10 q (.tail _ hq)))
    have hD2 : ∀ q ∈ (it, itO) :: cellsL L o1 o2 o3 o4 o5 o6 o7 o8 ((pa, W.listOf its kc) :: (tl ++ lsts)), D2 ≠ q.1 := fun q hq => Ne.symm (Nat.ne_of_lt (hlD q hq))
    have hpreD : ∀ q ∈ (D3, W.listOf vs3.toArray c3) :: (D2, W.listOf #[Value.int (endN M p lay i) t6, Value.int (endF M p lay i) t8] 0) :: (it, itO) :: cellsL L o1 o2 o3 o4 o5 o6 o7 o8 [], q.1 ≠ pa := fun q hq => by
      have hpm : (pa, W.listOf its kc) ∈ (it, itO) :: cellsL L o1 o2 o3 o4 o5 o6 o7 o8 ((pa, W.listOf its kc) :: (tl ++ lsts)) := .tail _ (List.mem_append_right (cellsL L o1 o2 o3 o4 o5 o6 o7 o8 []) (.head _))
      rcases List.mem_cons.mp hq with rfl | hq
      · exact hD3 _ hpm
      rcases List.mem_cons.mp hq with rfl | hq
      · exact hD2 _ hpm
      rcases List.mem_cons.mp hq with rfl | hq
      · exact fun q => hne (pa, W.listOf its kc) (List.mem_append_right (cellsL L o1 o2 o3 o4 o5 o6 o7 o8 []) (.head _)) q.symm
      exact cells_off (r := []) (hp4 (pa, W.listOf its kc) (.head _)) (by intro p hp; cases hp) q hq
    have hszp : its.size ≤ sizeLine := by
      have := pairsF_len M p lay i
      rw [sizeLine_eq, hsh.1]; lia
    obtain ⟨lo, hi, hpr⟩ : ∃ lo hi, pairN (endN M p lay i) (endF M p lay i) = [lo, hi] ∧ (lo = hi ↔ endN M p lay i = endF M p lay i) := by
      unfold pairN
      split
      · exact ⟨_, _, rfl, Iff.rfl⟩
      · exact ⟨_, _, rfl, eq_comm⟩
    obtain ⟨f0, f1⟩ : (∃ t, vs3.toArray[(0 : Int).toNat]? = some (.int lo t)) ∧ ∃ t, vs3.toArray[(1 : Int).toNat]? = some (.int hi t) := by
      rw [hpr.1] at hi10
      obtain ⟨t0, v1, rfl, hi11⟩ := IntsAre.cons_inv hi10
      obtain ⟨t1, v2, rfl, hi12⟩ := IntsAre.cons_inv hi11
      exact ⟨⟨t0, rfl⟩, t1, rfl⟩
    obtain ⟨u0, f0⟩ := f0
    obtain ⟨u1, f1⟩ := f1
    by_cases hab : endN M p lay i = endF M p lay i
    · have hq : (lo == hi) = true := by rw [hpr.2.mpr hab]; simp
      have htw : twinsF M p lay (i + 1) = twinsF M p lay i + 1 := by rw [twinsF, if_pos hab]
      k_steps
      refine Hold.mk ?_
      (rename Fr _ _ _ _ => F11)
      (rename News _ _ _ _ => N11)
      have hsub11 : ∀ q ∈ tl ++ lsts, q ∈ (D3, W.listOf vs3.toArray c3) :: (D2, W.listOf #[Value.int (endN M p lay i) t6, Value.int (endF M p lay i) t8] 0) :: (it, itO) :: cellsL L o1 o2 o3 o4 o5 o6 o7 o8 ((pa, W.listOf its kc) :: (tl ++ lsts)) := fun q hq => .tail _ (.tail _ (.tail _ (List.mem_append_right (cellsL L o1 o2 o3 o4 o5 o6 o7 o8 []) (.tail _ hq))))
      have hcur := hsh.mono fun l xs x => LstIn.at F11 N11 hsub11 x
      have hview : IntList _ D3 (pairN (endN M p lay i) (endF M p lay i)) := ⟨_, (N11 _ (.head _)).1, rfl, _, _, rfl, hi10⟩
      k_dflt (refine' notin_shelf (its := its) ?ya1 hcur hview ?ya2 ?_; (case ya1 => exact News.isList N11 (by k_mem)); (case ya2 => show callerA.units + 3 + 1 < cLine; decide +kernel))
      by_cases hx : pairN (endN M p lay i) (endF M p lay i) ∈ pairsF M p lay i
      · have hx1 : (!decide (pairN (endN M p lay i) (endF M p lay i) ∈ pairsF M p lay i)) = false := by rw [decide_eq_true hx]; rfl
        have hpf : pairsF M p lay (i + 1) = pairsF M p lay i := by rw [pairsF, if_pos hx]
        k_steps
        exact ⟨_, _, _, _, _, rfl, hbr, F11, fun q hq => N11 q (.tail _ (.tail _ hq)), hne, its, kc, lsts, _, rfl, by rw [hpf]; exact hsh, hpo, hp4, rfl, by rw [htw]; rfl, rfl, rfl, rfl, rfl⟩
      · have hx1 : (!decide (pairN (endN M p lay i) (endF M p lay i) ∈ pairsF M p lay i)) = true := by rw [decide_eq_false hx]; rfl
        have hpf : pairsF M p lay (i + 1) = pairsF M p lay i ++ [pairN (endN M p lay i) (endF M p lay i)] := by rw [pairsF, if_neg hx]
        k_steps
        refine Hold.mk ?_
        refine append_mid (pre := (D3, W.listOf vs3.toArray c3) :: (D2, W.listOf #[Value.int (endN M p lay i) t6, Value.int (endF M p lay i) t8] 0) :: (it, itO) :: cellsL L o1 o2 o3 o4 o5 o6 o7 o8 []) F11 N11 hpreD hpo hszp ?_
        intro h12 F12 N12
        clear hcur hview
        k_steps
        refine ⟨_, _, _, _, cellsL L o1 o2 o3 o4 o5 o6 o7 o8 ((pa, W.listOf (its.push (.ref D3)) (kc + 1)) :: (tl ++ (lsts ++ [(D3, W.listOf vs3.toArray c3)]))), rfl, hbr, F12, ?_, ?_, its.push (.ref D3), kc + 1, lsts ++ [(D3, W.listOf vs3.toArray c3)], _, rfl, ?_, ?_, ?_, rfl, by rw [htw]; rfl, rfl, rfl, rfl, rfl⟩
        · intro q hq
          refine N12 q ?_
          rcases List.mem_cons.mp hq with rfl | hq
          · exact .tail _ (.tail _ (.head _))
          rcases List.mem_append.mp (show q ∈ cellsL L o1 o2 o3 o4 o5 o6 o7 o8 [(pa, W.listOf (its.push (.ref D3)) (kc + 1))] ++ _ from hq) with hq | hq
          · exact .tail _ (.tail _ (.tail _ (List.mem_append_left (tl ++ lsts) hq)))
          replace hq : q ∈ tl ++ (lsts ++ [(D3, W.listOf vs3.toArray c3)]) := hq
          rw [← List.append_assoc] at hq
          rcases List.mem_append.mp hq with hq | hq
          · exact .tail _ (.tail _ (.tail _ (List.mem_append_right (cellsL L o1 o2 o3 o4 o5 o6 o7 o8 []) (.tail _ hq))))
          · rw [List.mem_singleton.mp hq]; exact .head _
        · intro q hq
          rcases List.mem_append.mp (show q ∈ cellsL L o1 o2 o3 o4 o5 o6 o7 o8 [] ++ _ from hq) with hq | hq
          · exact hne q (List.mem_append_left ((pa, W.listOf its kc) :: (tl ++ lsts)) hq)
          rcases List.mem_cons.mp hq with rfl | hq
          · exact hne (pa, W.listOf its kc) (List.mem_append_right (cellsL L o1 o2 o3 o4 o5 o6 o7 o8 []) (.head _))
          rw [← List.append_assoc] at hq
          rcases List.mem_append.mp hq with hq | hq
          · exact hne q (List.mem_append_right (cellsL L o1 o2 o3 o4 o5 o6 o7 o8 []) (.tail _ hq))
          · rw [List.mem_singleton.mp hq]; exact hD3 (it, itO) (.head _)
        · rw [hpf, ← List.append_assoc]
          exact (hsh.mono fun l xs x => x.mono (fun q hq => List.mem_append_left _ hq) fun _ _ h => h).push ⟨_, .inl (List.mem_append_right _ (.head _)), rfl, _, _, rfl, hi10⟩
        · intro q hq
          rw [← List.append_assoc] at hq
          rcases List.mem_append.mp hq with hq | hq
          · exact hpo q hq
          · rw [List.mem_singleton.mp hq]; exact hD3 (pa, W.listOf its kc) (.tail _ (List.mem_append_right (cellsL L o1 o2 o3 o4 o5 o6 o7 o8 []) (.head _)))
        · rw [← List.append_assoc]
          exact .cons (hp4 (pa, W.listOf its kc) (.head _)) (.append (fun q hq => hp4 q (.tail _ hq)) (.cons (past_cells fun q hq => Ne.symm (hD3 q (.tail _ hq))) .nil))
    · have hq : (lo == hi) = false := beq_false_of_ne fun q => hab (hpr.2.mp q)
      have htw : twinsF M p lay (i + 1) = twinsF M p lay i := by rw [twinsF, if_neg hab]
      k_steps
      refine Hold.mk ?_
      (rename Fr _ _ _ _ => F11)
      (rename News _ _ _ _ => N11)
      have hsub11 : ∀ q ∈ tl ++ lsts, q ∈ (D3, W.listOf vs3.toArray c3) :: (D2, W.listOf #[Value.int (endN M p lay i) t6, Value.int (endF M p lay i) t8] 0) :: (it, itO) :: cellsL L o1 o2 o3 o4 o5 o6 o7 o8 ((pa, W.listOf its kc) :: (tl ++ lsts)) := fun q hq => .tail _ (.tail _ (.tail _ (List.mem_append_right (cellsL L o1 o2 o3 o4 o5 o6 o7 o8 []) (.tail _ hq))))
      have hcur := hsh.mono fun l xs x => LstIn.at F11 N11 hsub11 x
      have hview : IntList _ D3 (pairN (endN M p lay i) (endF M p lay i)) := ⟨_, (N11 _ (.head _)).1, rfl, _, _, rfl, hi10⟩
      k_dflt (refine' notin_shelf (its := its) ?yb1 hcur hview ?yb2 ?_; (case yb1 => exact News.isList N11 (by k_mem)); (case yb2 => show callerA.units + 3 + 1 < cLine; decide +kernel))
      by_cases hx : pairN (endN M p lay i) (endF M p lay i) ∈ pairsF M p lay i
      · have hx1 : (!decide (pairN (endN M p lay i) (endF M p lay i) ∈ pairsF M p lay i)) = false := by rw [decide_eq_true hx]; rfl
        have hpf : pairsF M p lay (i + 1) = pairsF M p lay i := by rw [pairsF, if_pos hx]
        k_steps
        exact ⟨_, _, _, _, _, rfl, hbr, F11, fun q hq => N11 q (.tail _ (.tail _ hq)), hne, its, kc, lsts, _, rfl, by rw [hpf]; exact hsh, hpo, hp4, rfl, by rw [htw]; rfl, rfl, rfl, rfl, rfl⟩
      · have hx1 : (!decide (pairN (endN M p lay i) (endF M p lay i) ∈ pairsF M p lay i)) = true := by rw [decide_eq_false hx]; rfl
        have hpf : pairsF M p lay (i + 1) = pairsF M p lay i ++ [pairN (endN M p lay i) (endF M p lay i)] := by rw [pairsF, if_neg hx]
        k_steps
        refine Hold.mk ?_
        refine append_mid (pre := (D3, W.listOf vs3.toArray c3) :: (D2, W.listOf #[Value.int (endN M p lay i) t6, Value.int (endF M p lay i) t8] 0) :: (it, itO) :: cellsL L o1 o2 o3 o4 o5 o6 o7 o8 []) F11 N11 hpreD hpo hszp ?_
        intro h12 F12 N12
        clear hcur hview
        k_steps
        refine ⟨_, _, _, _, cellsL L o1 o2 o3 o4 o5 o6 o7 o8 ((pa, W.listOf (its.push (.ref D3)) (kc + 1)) :: (tl ++ (lsts ++ [(D3, W.listOf vs3.toArray c3)]))), rfl, hbr, F12, ?_, ?_, its.push (.ref D3), kc + 1, lsts ++ [(D3, W.listOf vs3.toArray c3)], _, rfl, ?_, ?_, ?_, rfl, by rw [htw]; rfl, rfl, rfl, rfl, rfl⟩
        · intro q hq
          refine N12 q ?_
          rcases List.mem_cons.mp hq with rfl | hq
          · exact .tail _ (.tail _ (.head _))
          rcases List.mem_append.mp (show q ∈ cellsL L o1 o2 o3 o4 o5 o6 o7 o8 [(pa, W.listOf (its.push (.ref D3)) (kc + 1))] ++ _ from hq) with hq | hq
          · exact .tail _ (.tail _ (.tail _ (List.mem_append_left (tl ++ lsts) hq)))
          replace hq : q ∈ tl ++ (lsts ++ [(D3, W.listOf vs3.toArray c3)]) := hq
          rw [← List.append_assoc] at hq
          rcases List.mem_append.mp hq with hq | hq
          · exact .tail _ (.tail _ (.tail _ (List.mem_append_right (cellsL L o1 o2 o3 o4 o5 o6 o7 o8 []) (.tail _ hq))))
          · rw [List.mem_singleton.mp hq]; exact .head _
        · intro q hq
          rcases List.mem_append.mp (show q ∈ cellsL L o1 o2 o3 o4 o5 o6 o7 o8 [] ++ _ from hq) with hq | hq
          · exact hne q (List.mem_append_left ((pa, W.listOf its kc) :: (tl ++ lsts)) hq)
          rcases List.mem_cons.mp hq with rfl | hq
          · exact hne (pa, W.listOf its kc) (List.mem_append_right (cellsL L o1 o2 o3 o4 o5 o6 o7 o8 []) (.head _))
          rw [← List.append_assoc] at hq
          rcases List.mem_append.mp hq with hq | hq
          · exact hne q (List.mem_append_right (cellsL L o1 o2 o3 o4 o5 o6 o7 o8 []) (.tail _ hq))
          · rw [List.mem_singleton.mp hq]; exact hD3 (it, itO) (.head _)
        · rw [hpf, ← List.append_assoc]
          exact (hsh.mono fun l xs x => x.mono (fun q hq => List.mem_append_left _ hq) fun _ _ h => h).push ⟨_, .inl (List.mem_append_right _ (.head _)), rfl, _, _, rfl, hi10⟩
        · intro q hq
          rw [← List.append_assoc] at hq
          rcases List.mem_append.mp hq with hq | hq
          · exact hpo q hq
          · rw [List.mem_singleton.mp hq]; exact hD3 (pa, W.listOf its kc) (.tail _ (List.mem_append_right (cellsL L o1 o2 o3 o4 o5 o6 o7 o8 []) (.head _)))
        · rw [← List.append_assoc]
          exact .cons (hp4 (pa, W.listOf its kc) (.head _)) (.append (fun q hq => hp4 q (.tail _ hq)) (.cons (past_cells fun q hq => Ne.symm (hD3 q (.tail _ hq))) .nil))
  case done =>
    clear F3 N3
    intro m₁ ld₁ h₁ tk₁ gn₁ hbr zzJ F N
    refine hidden fun zzG zzH => ?_
    obtain ⟨its, kc, lsts, tt, rfl, hsh, hpo, hp4, m1, m2, m3, m4, m5, m6⟩ := zzJ
    rw [List.size_toArray, hE.1] at hsh m2
    refine zzH ?_
    clear zzH zzG
    k_steps
    refine Hold.mk ?_
    refine k pa _ _ gn₁ its kc tt m₁ hbr hsh.1 F m1 m2 m3 m4 m5 m6 (fun q hq => N q ?_) (.cons (hp4 (pa, W.listOf its kc) (.head _)) hpa)
    rcases List.mem_append.mp (show q ∈ cellsL L o1 o2 o3 o4 o5 o6 o7 o8 [(pa, W.listOf its kc)] ++ tl from hq) with hq | hq
    · exact List.mem_append_left (tl ++ lsts) hq
    · exact hmt _ _ _ q hq
end
theorem kw_LK_z : True := by
  k_with_none
  trivial
end Mine
end

section
open PySem PySem.W PySem.Spec PySem.Calls PyProof.Rows PyProof.Rows.LCg PyProof.Rows.LCt
set_option Elab.async false
set_option maxRecDepth 100000
namespace Mine
section
variable {prog : Program} {w : World} {A : Around} {E : Value → Shared → Prop} {s : Shared} {h₀ : Heap} {L : Addr} {m : Str → Option Value} {news : List (Addr × Obj)}
theorem set_led {l : Addr} {vs : List Value} {ns : List Int} {Q : Value → Shared → Prop} (F : Fr h₀ L s.heap m) (N : News h₀ L s.heap news) (hh : A.handled = none) (hl : s.heap.IsList l vs.toArray) (hi : IntsAre vs ns) (hb : ns.length + 1 < scanBound)
    (h : ∀ D h' (tk : Nat) o, Fr h₀ L h' m → News h₀ L h' ((D, o) :: news) → (∀ p ∈ news, p.1 ≠ D) → o.SetObjOf (intKind prog w) (fun k' => (firstMet (fun i => ns.getD i 0) ns.length).any (· == k')) (firstMet (fun i => ns.getD i 0) ns.length).length → Q (.ref D) { s with heap := h', toks := tk }) :
    wpAny (model prog w) A (call (.type "set") [.ref l]) Q E s := by
  have hvn : vs.length = ns.length := IntsAre.length hi
  refine PySem.call_set_list (items := vs.toArray) (ns := ns) hh hl (by simpa using hi) (by rw [List.size_toArray]; lia) fun h' tk hS hk => ?_
  rw [show vs.toArray.size = ns.length by rw [List.size_toArray]; exact hvn] at hS
  obtain ⟨o, ho, hso⟩ := hS.objOf
  obtain ⟨oL, _, _, hL, _⟩ := F.ns
  have hLlt : L < s.heap.objs.size := Heap.lt_size hL
  refine h _ h' tk o ⟨F.ns.at' fun o' e => hk L o' hLlt e, fun b o' e => hk b o' (Heap.lt_size (F.keep b o' e)) (F.keep b o' e), F.above⟩ (fun p hp => ?_) (fun p hp => Nat.ne_of_lt (Heap.lt_size (N p hp).1)) hso
  rcases List.mem_cons.mp hp with rfl | hp
  · refine ⟨ho, Nat.ne_of_gt hLlt, ?_⟩
    cases hq : h₀.get? s.heap.objs.size with
    | none => rfl
    | some o' => exact absurd (Heap.lt_size (F.keep _ _ hq)) (Nat.lt_irrefl _)
  · exact ⟨hk _ _ (Heap.lt_size (N p hp).1) (N p hp).1, (N p hp).2.1, (N p hp).2.2⟩
end
/-- how many kinds -/
def kindsN (M : Nat → Int → Rows) (lay n : Nat) : Nat := (firstMet (fun i => ((List.range n).map fun v => numV M lay v).getD i 0) ((List.range n).map fun v => numV M lay v).length).length
section
variable {w : World} {mean : ExcName → Option Value} {mg mb : Str → Option Value}
theorem kw_LL_1 : True := by
  k_with_none
  k_with "call type:set" => (k_here; refine Hold.out ?_)
  k_with "call builtin:len" => (k_here; refine Hold.out ?_)
  trivial
set_option maxHeartbeats 4000000 in
theorem body5 {s : Shared} {g : Heap} {L fa : Addr} {cd : Value} (X : (hd.heap_39 w.params).In g) (T : Top PV LO mean mg mb g) {n : Nat} (hn8 : n ≤ 8) {M : Nat → Int → Rows} {lay : Nat} {to pa : Addr} {ts : List Value} {its : Array Value} {kc pl tw : Nat} {tt : Tok} (hts : IntsAre ts ((List.range n).map fun v => numV M lay v)) (hpl : its.size = pl) (hp8 : pl ≤ 8)
    (hott : (kindsN M lay n : Int) - (pl : Int) + (tw : Int) = 1) {m : Str → Option Value} {o1 o2 o3 o4 o5 o6 o7 o8 : Obj} {tl : List (Addr × Obj)} (F : Fr g L s.heap m) (hm1 : m "told" = some (.ref to)) (hm2 : m "pairs" = some (.ref pa)) (hm3 : m "twins" = some (.int (tw : Nat) tt)) (N : News g L s.heap (cellsL L o1 o2 o3 o4 o5 o6 o7 o8 tl))
    (hto : (to, lst ts) ∈ tl) (hpt : (pa, W.listOf its kc) ∈ tl) {Q : Flow → Shared → Prop}
    (k : ∀ (h : Heap) (tk : Tok), Fr g L h m → News g L h (cellsL L o1 o2 o3 o4 o5 o6 o7 o8 tl) → Q .next { s with heap := h, toks := tk }) :
    wpAny (MD w) (lawA L fa cd) (execs (forBody lawDef.body.tail.tail.tail.tail.tail.tail.tail.tail.tail.tail.tail.tail.tail).tail.tail.tail.tail.tail.tail.tail (lawE L fa cd)) Q NE s := by
  have hm4 : m = (fun y => if y = Str.ofString "told" then some (.ref to) else if y = Str.ofString "pairs" then some (.ref pa) else if y = Str.ofString "twins" then some (.int (tw : Nat) tt) else m y) := by
    conv => lhs; rw [norm1 hm1, norm1 hm2, norm1 hm3]
  rw [hm4] at F k
  clear hm4
  revert k
  delta lawA lawE lawDef getDef
  dsimp only [List.tail_cons, forBody] at *
  intro k
  k_steps
  subst hpl
  have hmt : ∀ q ∈ tl, q ∈ cellsL L o1 o2 o3 o4 o5 o6 o7 o8 tl := fun q hq => List.mem_append_right (cellsL L o1 o2 o3 o4 o5 o6 o7 o8 []) hq
  refine Hold.mk ?_
  (rename Fr _ _ _ _ => F1)
  (rename News _ _ _ _ => N1)
  have hnl : ((List.range n).map fun v => numV M lay v).length = n := by rw [List.length_map, List.length_range]
  refine set_led F1 N1 rfl (News.isList N1 (hmt _ hto)) hts (by rw [hnl]; unfold scanBound; lia) ?_
  clear F1 N1
  intro D h2 tk2 o F2 N2 hne2 hso
  k_steps
  refine Hold.mk ?_
  (rename Fr _ _ _ _ => F3)
  (rename News _ _ _ _ => N3)
  have hkl : kindsN M lay n ≤ 8 := by
    unfold kindsN
    have := firstMet_length_le (fun i => ((List.range n).map fun v => numV M lay v).getD i 0) ((List.range n).map fun v => numV M lay v).length
    lia
  k_dflt (refine kse_len N3 (.head hne2) hso (by unfold kindsN at hkl; lia) ?_)
  k_steps
  refine Hold.mk ?_
  (rename Fr _ _ _ _ => F4)
  (rename News _ _ _ _ => N4)
  k_dflt (refine len_list (News.isList N4 (.tail _ (hmt _ hpt))) (by lia) ?_)
  have hq : (((firstMet (fun i => ((List.range n).map fun v => numV M lay v).getD i 0) ((List.range n).map fun v => numV M lay v).length).length : Int) - ((its.size : Nat) : Int) + (tw : Int) != 1) = false := by
    unfold kindsN at hott
    rw [hott]; rfl
  k_steps
  exact k _ _ F4 fun q hq => N4 q (.tail _ hq)
end
theorem kw_LL_z : True := by
  k_with_none
  trivial
end Mine
end

section
open PySem PySem.W PySem.Spec PySem.Calls PyProof.Rows PyProof.Rows.LCg PyProof.Rows.LCt
set_option Elab.async false
set_option maxRecDepth 100000
namespace Mine
section
variable {w : World} {s : Shared} {g : Heap} {L fa : Addr} {cd : Value} {Q : Flow → Shared → Prop}
def LayPost (g : Heap) (L : Addr) (s : Shared) (o1 o2 o3 o4 o5 o6 o7 : Obj) (tl : List (Addr × Obj)) (J : (Str → Option Value) → Prop) (f : Flow) (s' : Shared) : Prop :=
  f = .next ∧ ∃ h' tk' gn' m₂ o8' v8', s' = { s with heap := h', toks := tk', gens := gn' } ∧ (Bare s.gens → Bare gn') ∧ Fr g L h' m₂ ∧ News g L h' (cellsL L o1 o2 o3 o4 o5 o6 o7 o8' tl) ∧ o8'.data = .cell v8' ∧ J m₂
theorem loop_layer {px : Pos} {body : List Stmt} {r : Addr} {a b : Int} {t u v : Tok} {n : Nat} {m : Str → Option Value} {o1 o2 o3 o4 o5 o6 o7 o8 : Obj} {v7 v8 : Option Value} {tl : List (Addr × Obj)} (J : Nat → (Str → Option Value) → Prop)
    (F : Fr g L s.heap m) (N : News g L s.heap (cellsL L o1 o2 o3 o4 o5 o6 o7 o8 tl)) (c7 : o7.data = .cell v7) (c8 : o8.data = .cell v8) (hpa : Past L tl) (hJ : J 0 m)
    (hr : IsRange s.heap r a b 1 t u v) (hsm : Builtin.Range.small a b 1 = true) (hn : Builtin.Range.rangeSize a b 1 = ((n : Nat) : Int))
    (turn : ∀ i tv m₁ it itO o7 o8 v8 h₁ tk₁ gn₁, i < n → J i m₁ → o7.data = .cell (some (.int (a + (i : Nat)) tv)) → o8.data = .cell v8 → Fr g L h₁ m₁ → News g L h₁ (cellsL L o1 o2 o3 o4 o5 o6 o7 o8 ((it, itO) :: tl)) → Past L ((it, itO) :: tl) →
      wpAny (MD w) (lawA L fa cd) (execs body (lawE L fa cd)) (LayPost g L { s with heap := h₁, toks := tk₁, gens := gn₁ } o1 o2 o3 o4 o5 o6 o7 ((it, itO) :: tl) (J (i + 1))) NE { s with heap := h₁, toks := tk₁, gens := gn₁ })
    (done : ∀ m₁ o7 o8 h₁ tk₁ gn₁, (Bare s.gens → Bare gn₁) → J n m₁ → Fr g L h₁ m₁ → News g L h₁ (cellsL L o1 o2 o3 o4 o5 o6 o7 o8 tl) → Q .next { s with heap := h₁, toks := tk₁, gens := gn₁ }) :
    wpAny (MD w) (lawA L fa cd) (pyIter (.ref r)) (fun it s₂ => codeAny (MD w) (lawA L fa cd) (.forLoop (.Name (Str.ofString "layer") px) it body [] (lawE L fa cd)) (fun r s' => match r with | .ok f => Q f s' | .error e => cameBackBy (MD w) (lawA L fa cd) (lawE L fa cd) NE e s') s₂) NE s := by
  have hh : (lawA L fa cd).handled = none := rfl
  have hitL : s.heap.objs.size ≠ L := by
    obtain ⟨oL, _, _, hoL, _⟩ := F.ns
    exact Nat.ne_of_gt (Heap.lt_size hoL)
  have hitg : g.get? s.heap.objs.size = none := by
    cases q : g.get? s.heap.objs.size with
    | none => rfl
    | some o => exact absurd (Heap.lt_size (F.keep _ _ q)) (Nat.lt_irrefl _)
  have hlt : ∀ p ∈ cellsL L o1 o2 o3 o4 o5 o6 o7 o8 tl, p.1 ≠ s.heap.objs.size := fun p hp => Nat.ne_of_lt (Heap.lt_size (N p hp).1)
  have hpit : ∀ k : Nat, 1 ≤ k → k ≤ 8 → s.heap.objs.size ≠ Nat.add L k := past_cells hlt
  have hoff : ∀ o7 o8 : Obj, ∀ p ∈ cellsL L o1 o2 o3 o4 o5 o6 o7 o8 tl, p.1 ≠ s.heap.objs.size := fun o7 o8 => cells_off hpit fun p hp => hlt p (List.mem_append_right (cellsL L o1 o2 o3 o4 o5 o6 _ _ []) hp)
  have hpt : ∀ itO : Obj, Past L ((s.heap.objs.size, itO) :: tl) := fun itO => .cons hpit hpa
  refine wpAny_pyIter_range hr hsm ?_
  rw [hn]
  refine codeAny_forLoop (fun k s' => ∃ i m₁ h₁ tk₁ gn₁ o7 o8 v7 v8, k = n - i ∧ i ≤ n ∧ s' = { s with heap := h₁, toks := tk₁, gens := gn₁ } ∧ (Bare s.gens → Bare gn₁) ∧ J i m₁ ∧ Fr g L h₁ m₁ ∧ News g L h₁ (cellsL L o1 o2 o3 o4 o5 o6 o7 o8 ((s.heap.objs.size, rgO (a + (i : Nat)) ((n : Int) - (i : Nat))) :: tl)) ∧ o7.data = .cell v7 ∧ o8.data = .cell v8) ?_ n ?_ (fun _ => rfl)
  · rintro k s' ⟨i, m₁, h₁, tk₁, gn₁, o7, o8, v7, v8, rfl, hi, rfl, hbr, hJ₁, F₁, N₁, d7, d8⟩
    have hit : IsRangeIter h₁ s.heap.objs.size (a + (i : Nat)) ((n : Int) - (i : Nat)) 1 := (N₁ (s.heap.objs.size, rgO (a + (i : Nat)) ((n : Int) - (i : Nat))) (List.mem_append_right (cellsL L o1 o2 o3 o4 o5 o6 o7 o8 []) (.head _))).1
    have N₀ : News g L h₁ (cellsL L o1 o2 o3 o4 o5 o6 o7 o8 tl) := fun p hp => N₁ p (by
      rcases List.mem_append.mp (show p ∈ cellsL L o1 o2 o3 o4 o5 o6 o7 o8 [] ++ tl from hp) with hp | hp
      · exact List.mem_append_left ((s.heap.objs.size, rgO (a + (i : Nat)) ((n : Int) - (i : Nat))) :: tl) hp
      · exact List.mem_append_right (cellsL L o1 o2 o3 o4 o5 o6 o7 o8 []) (.tail _ hp))
    by_cases hilt : i < n
    · refine wpAny_mono (wpAny_pyNext_range_item (E := NE) (s := { s with heap := h₁, toks := tk₁, gens := gn₁ }) hit (by lia) (fun h' hit' hs => ?_)) (fun r s₁ q => q) fun _ _ y => y.elim
      have F' := F₁.change hs hitL hitg
      have e2 : (n : Int) - (i : Nat) - 1 = (n : Int) - ((i + 1 : Nat) : Int) := by lia
      have e3 : a + (i : Nat) + 1 = a + ((i + 1 : Nat) : Int) := by lia
      rw [e2, e3] at hit'
      have N' : News g L h' (cellsL L o1 o2 o3 o4 o5 o6 o7 o8 ((s.heap.objs.size, rgO (a + ((i + 1 : Nat) : Int)) ((n : Int) - ((i + 1 : Nat) : Int))) :: tl)) := fun p hp => by
        have hN0 := news_ext N₀ (Heap.SameBut.extBut hs) (hoff o7 o8)
        rcases List.mem_append.mp (show p ∈ cellsL L o1 o2 o3 o4 o5 o6 o7 o8 [] ++ _ from hp) with hp | hp
        · exact hN0 p (List.mem_append_left tl hp)
        · rcases List.mem_cons.mp hp with rfl | hp
          · exact ⟨hit', hitL, hitg⟩
          · exact hN0 p (List.mem_append_right (cellsL L o1 o2 o3 o4 o5 o6 o7 o8 []) hp)
      refine wpAny_assign_Name (storeX_C (c := L + 1 + 1 + 1 + 1 + 1 + 1 + 1) F' N' rfl (updC7 (hpt _)) d7 (fun h'' o7' F'' N'' d7' => ?_) rfl rfl)
      refine wpAny_mono (turn i _ m₁ _ _ o7' o8 v8 h'' _ gn₁ hilt hJ₁ d7' d8 F'' N'' (hpt _)) (fun f s₃ q => ?_) fun _ _ y => y.elim
      obtain ⟨rfl, h₃, tk₃, gn₃, m₂, o8', v8', rfl, hbr₂, F₂, N₂, d8', hJ₂⟩ := q
      exact ⟨n - (i + 1), by lia, i + 1, m₂, h₃, tk₃, gn₃, o7', o8', _, v8', rfl, hilt, rfl, fun h => hbr₂ (hbr h), hJ₂, F₂, N₂, d7', d8'⟩
    · have hie : i = n := by lia
      subst hie
      refine wpAny_mono (wpAny_pyNext_range_end (E := NE) (s := { s with heap := h₁, toks := tk₁, gens := gn₁ }) hh hit (by lia) (fun h' hs => ?_)) (fun r s₁ q => q) fun _ _ y => y.elim
      refine wpAny_execs_nil ?_
      exact done m₁ o7 o8 h' tk₁ gn₁ hbr hJ₁ (fr_ext F₁ hs hitL hitg) (news_ext N₀ hs (hoff o7 o8))
  · refine ⟨0, m, _, _, s.gens, o7, o8, v7, v8, rfl, Nat.zero_le _, rfl, fun h => h, hJ, F.push _, fun p hp => ?_, c7, c8⟩
    rcases List.mem_append.mp (show p ∈ cellsL L o1 o2 o3 o4 o5 o6 o7 o8 [] ++ _ from hp) with hp | hp
    · have z := N p (List.mem_append_left tl hp)
      exact ⟨Heap.get?_push_of_some _ z.1, z.2⟩
    rcases List.mem_cons.mp hp with rfl | hp
    · refine ⟨?_, hitL, hitg⟩
      have e : rgO (a + ((0 : Nat) : Int)) ((n : Int) - ((0 : Nat) : Int)) = rgO a n := by simp [rgO]
      show _ = some (rgO (a + ((0 : Nat) : Int)) ((n : Int) - ((0 : Nat) : Int)))
      rw [e]
      exact Heap.get?_push_size _ rfl
    · have z := N p (List.mem_append_right (cellsL L o1 o2 o3 o4 o5 o6 o7 o8 []) hp)
      exact ⟨Heap.get?_push_of_some _ z.1, z.2⟩
end
end Mine
end

section
open PySem PySem.W PySem.Spec PySem.Calls PyProof.Rows PyProof.Rows.LCg PyProof.Rows.LCt PyProof.Rows.LCp
set_option Elab.async false
set_option maxRecDepth 100000
namespace Mine
section
variable {prog : Program} {w : World} {A : Around} {h₀ : Heap} {L : Addr} {m : Str → Option Value} {env : Env} {elt : Expr} {x x₂ : Str} {scope : Scope} {cl : List (Str × Addr)} {s : Shared} {S : List (Addr × Obj) → Prop} {P : Nat → Value → Prop} {Fin : List Value → List (Addr × Obj) → Prop}
theorem comp_invP {n : Nat} (J : Nat → List Value → List (Addr × Obj) → Prop)
    (turn : ∀ i ys news v, i < n → J i ys news → P i v → ∃ (t : Addr) (ot : Obj) (v₁ v₂ : Value) (nt : Nat), v = .ref t ∧ (t, ot) ∈ news ∧ ot.cls = .type "tuple" ∧ ot.data = .seq #[v₁, v₂] nt ∧ ∀ I oI C oC D m₂ h tk, NsObj oC m₂ → m₂ x = some v₁ → m₂ x₂ = some v₂ → Fr h₀ L h m → News h₀ L h ((I, oI) :: (C, oC) :: (D, lst ys) :: news) → Off3 I C D news → ((@Ne Nat I C) ∧ (@Ne Nat I D) ∧ (@Ne Nat C D)) →
      wpAny (model prog w) A (eval elt (compEnvC scope cl C env)) (CompEnd h₀ L m { s with heap := h, toks := tk } I oI C oC D (lst ys) S (fun y news' => J (i + 1) (ys ++ [y]) news')) NE { s with heap := h, toks := tk })
    (fin : ∀ ys news, J n ys news → Fin ys news) : ∀ k i ys news, i + k = n → J i ys news → CompRestP prog w A h₀ L m env elt x x₂ scope cl s S P Fin k i ys news
  | 0, i, ys, news, e, hJ => by
    have : i = n := by lia
    subst this
    exact .zero (fin _ _ hJ)
  | k + 1, i, ys, news, e, hJ => .succ fun v hP => by
    obtain ⟨t, ot, v₁, v₂, nt, e1, e2, e3, e4, go⟩ := turn i ys news v (by lia) hJ hP
    exact ⟨t, ot, v₁, v₂, nt, e1, e2, e3, e4, fun I oI C oC D m₂ h tk E' hoC hx hx2 F N off ne =>
      wpAny_mono (go I oI C oC D m₂ h tk hoC hx hx2 F N off ne) (fun y s₂ q => compEnd_mono q fun y n' q' => comp_invP J turn fin k (i + 1) _ _ (by lia) q') fun _ _ q => q.elim⟩
end
def dotC (sg : List Str) (r : Rows) : Int := Txt.count (textR sg (bareR r)) (Str.ofString ".")
def feedC (sg : List Str) (r : Rows) : Int := Txt.count (textR sg (bareR r)) (Str.ofString "\n")
theorem mul_small (a : Int) {b : Int} (h : 0 ≤ b ∧ b ≤ 1000) : IntMulOk a b := IntMulOk.of_right (by
  obtain ⟨b, rfl⟩ := Int.eq_ofNat_of_zero_le h.1
  have : ∀ b : Nat, b < 1001 → Builtin.Int.intBits ((b : Nat) : Int) ≤ 64 := by decide +kernel
  exact this b (by lia))
section
variable {w : World} {mean : ExcName → Option Value} {mg mb : Str → Option Value}
theorem kw_LN_1 : True := by
  k_with_none
  k_with "eval ListComp" => (k_here; k_dflt (refine ListComp_P (F₀ := by k_asm) (by with_unfolding_all rfl) (by decide) (by rfl) (by decide) (by rfl) (by rfl) (by decide) ?_))
  k_with "SrcLP" => (k_here; refine Hold.out ?_)
  k_with "subscriptTail Name Constant ref int" => (k_here; k_dflt (refine item_tupleT (TupL.flip (by with_reducible assumption) (by k_asm) (by k_asm) (by with_reducible assumption)) (by decide) (by decide) (by rfl) (by rfl) ?_))
  k_with "binaryOp Mult int int" => (k_here; k_dflt (refine mul_int ?_ (by with_reducible assumption)))
  trivial
set_option maxHeartbeats 4000000 in
theorem stageG {s : Shared} {g : Heap} {L fa : Addr} {cd : Value} (X : (hd.heap_39 w.params).In g) (T : Top PV LO mean mg mb g) {n k0 : Nat} (hn8 : n ≤ 8) (hk0 : k0 ≤ 8) {p : Nat → Nat} {sg : List Str} {M : Nat → Int → Rows} {se ea : Addr} {sv ys : List Value} {ke : Nat} {tn : Tok} {tl : List (Addr × Obj)} (hS : SeenAt g tl n sg M sv) (hE : EndsOk g tl p k0 sg M ys)
    (hfb : ∀ i, i < k0 → 0 ≤ feedC sg (M (p (i + 1)) ((i + 1 : Nat) : Int)) ∧ feedC sg (M (p (i + 1)) ((i + 1 : Nat) : Int)) ≤ 1000) (hpf : 0 ≤ ((List.range k0).map fun i => feedC sg (M (i + 1) ((p (i + 1) : Nat) : Int)) * feedC sg (M (p (i + 1)) ((i + 1 : Nat) : Int))).sum)
    (hwie : ((List.range n).map fun v => dotC sg (M v (-1))).sum = 2 * (n : Int) * (n : Int) + 2 * ((List.range k0).map fun i => feedC sg (M (i + 1) ((p (i + 1) : Nat) : Int)) * feedC sg (M (p (i + 1)) ((i + 1 : Nat) : Int))).sum)
    {m : Str → Option Value} {o1 o2 o3 o4 o5 o6 o7 o8 : Obj} (F : Fr g L s.heap m) (hm1 : m "seen" = some (.ref se)) (hm2 : m "many" = some (.int (n : Nat) tn)) (hm3 : m "ends" = some (.ref ea)) (N : News g L s.heap (cellsL L o1 o2 o3 o4 o5 o6 o7 o8 tl)) (hpa : Past L tl)
    (hse : (se, lst sv) ∈ tl) (hea : (ea, W.listOf ys.toArray ke) ∈ tl) {Q : Flow → Shared → Prop} (k : ∀ h tk, g.StaysIn h → Q (.ret (.bool true)) { s with heap := h, toks := tk }) :
    wpAny (MD w) (lawA L fa cd) (execs lawDef.body.tail.tail.tail.tail.tail.tail.tail.tail.tail.tail.tail.tail.tail.tail (lawE L fa cd)) Q NE s := by
  rw [norm1 hm1, norm1 hm2, norm1 hm3] at F
  delta lawA lawE lawDef getDef
  dsimp only [List.tail_cons] at *
  have hSl := hS.1
  have hEl := hE.1
  k_steps
  have hmt : ∀ q ∈ tl, q ∈ cellsL L o1 o2 o3 o4 o5 o6 o7 o8 tl := fun q hq => List.mem_append_right (cellsL L o1 o2 o3 o4 o5 o6 o7 o8 []) hq
  refine Hold.mk ?_
  (rename Fr _ _ _ _ => F1)
  (rename News _ _ _ _ => N1)
  refine SrcLP.ledger (ax := se) (its := sv.toArray) (k := sv.length) rfl F1 N1 (hmt _ hse) (by rw [sizeLine_eq, List.size_toArray]; lia) ?_
  clear F1 N1
  intro h5
  refine comp_invP (fun i us nw => nw = cellsL L o1 o2 o3 o4 o5 o6 o7 o8 tl ∧ IntsAre us ((List.range i).map fun v => dotC sg (M v (-1)))) ?_ ?_ _ _ _ _ (Nat.zero_add _) ⟨rfl, .nil⟩
  · rintro i us nw v hi3 ⟨rfl, hus⟩ hx
    rw [List.size_toArray, hSl] at hi3
    rw [List.getElem?_toArray] at hx
    obtain ⟨t, tb, tn', h1, o, h2, h3, nt, h4⟩ := hS.2 i hi3
    rw [h1] at hx
    refine ⟨t, o, _, _, nt, (Option.some.inj hx).symm, hmt _ h2, h3, h4, ?_⟩
    intro I oI C oC D3 m2 h6 tk6 hoC hx1 hx2 F6 N6 hoff hne3
    show wpAny _ _ _ _ _ _
    k_fold
    k_steps
    refine ⟨_, _, cellsL L o1 o2 o3 o4 o5 o6 o7 o8 tl, rfl, F6, N6, hoff, .inr ⟨_, hmt _ hse, rfl, _, rfl⟩, rfl, ?_⟩
    rw [List.range_succ, List.map_append]
    exact IntsAre.append hus (.cons _ _ .nil)
  · rintro us nw ⟨rfl, hus⟩ D3 h6 tk6 F6 N6 hoff
    rw [List.size_toArray, hSl] at hus
    k_steps
    refine Hold.mk ?_
    (rename Fr _ _ _ _ => F7)
    (rename News _ _ _ _ => N7)
    refine SrcLP.ledger (ax := ea) (its := ys.toArray) (k := ke) rfl F7 N7 (.tail _ (hmt _ hea)) (by rw [sizeLine_eq, List.size_toArray]; lia) ?_
    clear F7 N7
    intro h8
    refine comp_invP (fun i us2 nw => nw = (D3, lst us) :: cellsL L o1 o2 o3 o4 o5 o6 o7 o8 tl ∧ IntsAre us2 ((List.range i).map fun i => feedC sg (M (i + 1) ((p (i + 1) : Nat) : Int)) * feedC sg (M (p (i + 1)) ((i + 1 : Nat) : Int)))) ?_ ?_ _ _ _ _ (Nat.zero_add _) ⟨rfl, .nil⟩
    · rintro i us2 nw v hi3 ⟨rfl, hus2⟩ hx
      rw [List.size_toArray, hEl] at hi3
      rw [List.getElem?_toArray] at hx
      obtain ⟨e, t1, t2, b1, n1, b2, n2, h1, ⟨o, h2, h3, nt, h4⟩, hq1, hq2⟩ := hE.2 i hi3
      rw [h1] at hx
      refine ⟨e, o, _, _, nt, (Option.some.inj hx).symm, .tail _ (hmt _ h2), h3, h4, ?_⟩
      intro I oI C oC D4 m2 h9 tk9 hoC hx1 hx2 F9 N9 hoff9 hne9
      have hsubL : ∀ q ∈ tl, q ∈ (I, oI) :: (C, oC) :: (D4, lst us2) :: (D3, lst us) :: cellsL L o1 o2 o3 o4 o5 o6 o7 o8 tl := fun q hq => .tail _ (.tail _ (.tail _ (.tail _ (hmt _ hq))))
      have hmok : IntMulOk (Txt.count (textR sg (bareR (M (i + 1) ((p (i + 1) : Nat) : Int)))) (Str.ofString "\n")) (Txt.count (textR sg (bareR (M (p (i + 1)) ((i + 1 : Nat) : Int)))) (Str.ofString "\n")) := mul_small _ (hfb i hi3)
      show wpAny _ _ _ _ _ _
      k_fold
      k_steps
      refine ⟨_, _, _, rfl, F9, N9, hoff9, .inr ⟨_, .tail _ (hmt _ hea), rfl, _, rfl⟩, rfl, ?_⟩
      rw [List.range_succ, List.map_append]
      exact IntsAre.append hus2 (.cons _ _ .nil)
    · rintro us2 nw ⟨rfl, hus2⟩ D4 h9 tk9 F9 N9 hoff9
      rw [List.size_toArray, hEl] at hus2
      k_steps
      (rename Fr _ _ _ _ => F11)
      rw [hwie, beq_self_eq_true]
      exact k _ _ F11.keep
end
theorem kw_LN_z : True := by
  k_with_none
  trivial
end Mine
end

section
open PySem PySem.W PySem.Spec PySem.Calls PyProof.Rows PyProof.Rows.LCg PyProof.Rows.LCt PyProof.Rows.LCp
set_option Elab.async false
set_option maxRecDepth 100000
namespace Mine
/-- what the plain law has to give -/
structure LawOk (xs : List Int) (sg : List Str) (M : Nat → Int → Rows) (dep : Nat → Int → Nat) : Prop where
  net : Net (many xs) (nbOf xs) (kdOf xs) sg M dep
  dep20 : ∀ v, v < many xs → ∀ u, dep v u < 20
  rows : RowsAll (many xs) M
  strip : ∀ v, v < many xs → StripOk (textR sg (M v (-1))) (textR sg (bareR (M v (-1))))
  views : ∀ lay, lay < 2 → ViewNet (many xs) (nbOf xs) (fun v => (kz xs).getD v 0 * ((lay : Nat) : Int)) (layC M lay) dep
  ord : ∀ lay, lay < 2 → ∀ v w, v < many xs → w < many xs → sgn (layS sg M lay v) (layS sg M lay w) = b2i (decide (numV M lay v > numV M lay w)) - b2i (decide (numV M lay v < numV M lay w))
  same : ∀ lay, lay < 2 → ∀ v w, v < many xs → w < many xs → (sgn (layS sg M lay v) (layS sg M lay w) = 0 ↔ layC M lay v (-1) = layC M lay w (-1))
  otter : ∀ lay, lay < 2 → (kindsN M lay (many xs) : Int) - ((pairsF M (parOf xs) lay (nums xs).length).length : Int) + (twinsF M (parOf xs) lay (nums xs).length : Int) = 1
  feed : ∀ i, i < (nums xs).length → 0 ≤ feedC sg (M (parOf xs (i + 1)) ((i + 1 : Nat) : Int)) ∧ feedC sg (M (parOf xs (i + 1)) ((i + 1 : Nat) : Int)) ≤ 1000
  feeds : 0 ≤ ((List.range (nums xs).length).map fun i => feedC sg (M (i + 1) ((parOf xs (i + 1) : Nat) : Int)) * feedC sg (M (parOf xs (i + 1)) ((i + 1 : Nat) : Int))).sum
  wiener : ((List.range (many xs)).map fun v => dotC sg (M v (-1))).sum = 2 * (many xs : Int) * (many xs : Int) + 2 * ((List.range (nums xs).length).map fun i => feedC sg (M (i + 1) ((parOf xs (i + 1) : Nat) : Int)) * feedC sg (M (parOf xs (i + 1)) ((i + 1 : Nat) : Int))).sum
section
variable {w : World} {mean : ExcName → Option Value} {mg mb : Str → Option Value}
theorem cells_drop {L : Addr} {o1 o2 o3 o4 o5 o6 o7 o8 : Obj} {r r' : List (Addr × Obj)} (h : ∀ p ∈ r, p ∈ r') : ∀ p ∈ cellsL L o1 o2 o3 o4 o5 o6 o7 o8 r, p ∈ cellsL L o1 o2 o3 o4 o5 o6 o7 o8 r' := fun p hp => by
  rcases List.mem_append.mp (show p ∈ cellsL L o1 o2 o3 o4 o5 o6 o7 o8 [] ++ r from hp) with hp | hp
  · exact List.mem_append_left r' hp
  · exact List.mem_append_right (cellsL L o1 o2 o3 o4 o5 o6 o7 o8 []) (h p hp)
theorem lay_turn {s : Shared} {g : Heap} {L fa : Addr} {cd : Value} (X : (hd.heap_39 w.params).In g) (T : Top PV LO mean mg mb g) {xs : List Int} {sg : List Str} {sgl : List (Str × Tok)} {M : Nat → Int → Rows} {dep : Nat → Int → Nat} (O : LawOk xs sg M dep) (hsg : sgl.map (·.1) = sg) {lay : Nat} (hlay : lay < 2) {tl0 tn : Tok} {ta sa ka se ea : Addr} {ns ke : Nat} {kvs sv ys : List Value} (hkv : IntsAre kvs (kz xs))
    {m : Str → Option Value} {o1 o2 o3 o4 o5 o6 o7 o8 : Obj} {v8 : Option Value} {tl : List (Addr × Obj)} (F : Fr g L s.heap m) (hm1 : m "seen" = some (.ref se)) (hm2 : m "many" = some (.int (many xs : Nat) tn)) (hm3 : m "ends" = some (.ref ea)) (N : News g L s.heap (cellsL L o1 o2 o3 o4 o5 o6 o7 o8 tl)) (hpa : Past L tl)
    (c2 : o2.data = .cell (some (.ref ta))) (c3 : o3.data = .cell (some (.ref sa))) (c4 : o4.data = .cell (some (.ref ka))) (c7 : o7.data = .cell (some (.int (lay : Nat) tl0))) (c8 : o8.data = .cell v8)
    (hsa : (sa, W.listOf (strValues sgl).toArray ns) ∈ tl) (hse : (se, lst sv) ∈ tl) (hea : (ea, W.listOf ys.toArray ke) ∈ tl) (hka : (ka, W.listOf kvs.toArray 0) ∈ tl) (hti : Held tl g fun h => TiesAt h ta (many xs) (nbOf xs)) (hS : SeenAt g tl (many xs) sg M sv) (hE : EndsOk g tl (parOf xs) (nums xs).length sg M ys) :
    wpAny (MD w) (lawA L fa cd) (execs (forBody lawDef.body.tail.tail.tail.tail.tail.tail.tail.tail.tail.tail.tail.tail.tail) (lawE L fa cd)) (LayPost g L s o1 o2 o3 o4 o5 o6 o7 tl fun m' => m' "seen" = some (.ref se) ∧ m' "many" = some (.int (many xs : Nat) tn) ∧ m' "ends" = some (.ref ea)) NE s := by
  have hnl := nums_len xs
  have hmy : many xs = (nums xs).length + 1 := rfl
  have hkzl := kz_len xs
  refine body1 X T O.net.S.toSigns hsg O.net.n8 O.rows hlay F hm1 N hpa c3 c7 hsa hse hS ?_
  intro to h1 tk1 ts m1 hts F1 em1 N1 hp1
  subst em1
  refine body2 X T (O.views lay hlay) O.dep20 hlay (fun v hv => ⟨(kz xs)[v]'(by lia), List.getElem?_eq_getElem (by lia), ?_⟩) hkzl hkv F1 (by exact hm2) N1 hp1 c2 c4 c7 c8 (.tail _ hka) (hti.mono fun p hp => .tail _ hp) ?_
  · rw [List.getD_eq_getElem?_getD, List.getElem?_eq_getElem (show v < (kz xs).length by lia), Option.getD_some]
  intro vi o8' v8' h2 tk2 vs ids m2 hvs hil hid hd8 F2 em2 N2 hp2
  subst em2
  have hsub2 : ∀ p ∈ tl, p ∈ (vi, lst vs) :: (to, lst ts) :: tl := fun p hp => .tail _ (.tail _ hp)
  refine body3 X T O.net.n8 hlay hts hvs hil (hS.mono hsub2) (O.ord lay hlay) (fun v w hv hw => (O.same lay hlay v w hv hw).trans (hid v w hv hw).symm) F2 (by exact rfl) (by exact rfl) (by exact rfl) (by exact rfl) (by exact hm3) N2 c7 (hsub2 _ hse) (.tail _ (.head _)) (.head _) ?_
  intro h3 tk3 m3 F3 a1 a2 a3 a4 N3
  refine body4 (k0 := (nums xs).length) X T hnl.2 (by lia) (fun i hi => by have := par_lt xs (i + 1) (by lia); lia) O.net.S.toSigns hsg O.rows hlay (hE.mono hsub2) F3 a3 a4 a1 a2 N3 hp2 c3 c7 (hsub2 _ hsa) (hsub2 _ hea) ?_ (rest := [])
  intro pa h4 tk4 gn4 its kc t4 m4 hbr hsz F4 b1 b2 b3 b4 b5 b6 N4 hp4
  refine body5 X T O.net.n8 hts hsz (by have := pairsF_len M (parOf xs) lay (nums xs).length; lia) (O.otter lay hlay) F4 b3 b1 b2 N4 (.tail _ (.tail _ (.head _))) (.head _) ?_
  intro h5 tk5 F5 N5
  exact ⟨rfl, h5, tk5, gn4, m4, o8', v8', rfl, hbr, F5, fun p hp => N5 p (cells_drop (fun q hq => .tail _ (hsub2 q hq)) p hp), hd8, b4, b5, b6⟩
end
end Mine
end

section
open PySem PySem.W PySem.Spec PySem.Calls PyProof.Rows PyProof.Rows.LCg PyProof.Rows.LCt PyProof.Rows.LCp
set_option Elab.async false
set_option maxRecDepth 100000
namespace Mine
section
variable {w : World} {mean : ExcName → Option Value} {mg mb : Str → Option Value}
theorem kw_LP_1 : True := by
  k_with_none
  k_with "execs cons" => (k_here; (with_reducible show wpAny _ _ (execs (Stmt.Assign [Expr.Name (Str.ofString "dots") _] _ _ :: _) _) _ _ _); refine Hold.out ?_)
  k_with "exec For" => (k_here; refine Hold.out ?_)
  k_with "exec For Name Call cons nil" => (k_here; refine Hold.out ?_)
  k_with "pyIter" => (k_here; refine Hold.out ?_)
  k_with "pyIter ref" => (k_here; refine Hold.out ?_)
  trivial
set_option maxHeartbeats 4000000 in
theorem stageL {s : Shared} {g : Heap} {L fa : Addr} {cd : Value} (X : (hd.heap_39 w.params).In g) (T : Top PV LO mean mg mb g) {xs : List Int} {sg : List Str} {sgl : List (Str × Tok)} {M : Nat → Int → Rows} {dep : Nat → Int → Nat} (O : LawOk xs sg M dep) (hsg : sgl.map (·.1) = sg) {tn : Tok} {ta sa ka se ea : Addr} {ns ke : Nat} {kvs sv ys : List Value} (hkv : IntsAre kvs (kz xs))
    {m : Str → Option Value} {o1 o2 o3 o4 o5 o6 o7 o8 : Obj} {v7 v8 : Option Value} {tl : List (Addr × Obj)} (F : Fr g L s.heap m) (hm1 : m "seen" = some (.ref se)) (hm2 : m "many" = some (.int (many xs : Nat) tn)) (hm3 : m "ends" = some (.ref ea)) (N : News g L s.heap (cellsL L o1 o2 o3 o4 o5 o6 o7 o8 tl)) (hpa : Past L tl)
    (c2 : o2.data = .cell (some (.ref ta))) (c3 : o3.data = .cell (some (.ref sa))) (c4 : o4.data = .cell (some (.ref ka))) (c7 : o7.data = .cell v7) (c8 : o8.data = .cell v8)
    (hsa : (sa, W.listOf (strValues sgl).toArray ns) ∈ tl) (hse : (se, lst sv) ∈ tl) (hea : (ea, W.listOf ys.toArray ke) ∈ tl) (hka : (ka, W.listOf kvs.toArray 0) ∈ tl) (hti : Held tl g fun h => TiesAt h ta (many xs) (nbOf xs)) (hS : SeenAt g tl (many xs) sg M sv) (hE : EndsOk g tl (parOf xs) (nums xs).length sg M ys)
    {Q : Flow → Shared → Prop} (k : ∀ h tk gn, g.StaysIn h → (Bare s.gens → Bare gn) → Q (.ret (.bool true)) { s with heap := h, toks := tk, gens := gn }) :
    wpAny (MD w) (lawA L fa cd) (execs lawDef.body.tail.tail.tail.tail.tail.tail.tail.tail.tail.tail.tail.tail.tail (lawE L fa cd)) Q NE s := by
  have hnl := nums_len xs
  have hmy : many xs = (nums xs).length + 1 := rfl
  have hN := N
  clear N
  have key := @lay_turn w mean mg mb
  have fin := @stageG w mean mg mb
  revert key fin
  delta lawA lawE lawDef getDef
  dsimp only [List.tail_cons, forBody]
  intro key fin
  k_steps
  refine Hold.mk ?_
  refine wpAny_For ?_
  k_steps
  refine Hold.mk ?_
  (rename Fr _ _ _ _ => F1)
  (rename IsRange _ _ _ _ _ _ _ _ => R1)
  obtain ⟨nw0, hnw0, N1⟩ : ∃ nw0, nw0 = cellsL L o1 o2 o3 o4 o5 o6 o7 o8 tl ∧ News g L _ nw0 := ⟨_, rfl, by (rename News _ _ _ _ => N1); exact N1⟩
  subst hnw0
  have hr0 := range0 2 (by lia)
  refine loop_layer (m := m) (fun _ m' => m' "seen" = some (.ref se) ∧ m' "many" = some (.int (many xs : Nat) tn) ∧ m' "ends" = some (.ref ea)) F1 N1 c7 c8 hpa ⟨hm1, hm2, hm3⟩ R1 hr0.1 hr0.2 ?_ ?_
  · rintro i tv m₁ it itO p7 p8 w8 h₁ tk₁ gn₁ hi ⟨m1, m2, m3⟩ d7 d8 F2 N2 hp2
    rw [Int.zero_add] at d7
    have hsub : ∀ p ∈ tl, p ∈ (it, itO) :: tl := fun p hp => .tail _ hp
    exact key X T O hsg hi hkv F2 m1 m2 m3 N2 hp2 c2 c3 c4 d7 d8 (hsub _ hsa) (hsub _ hse) (hsub _ hea) (hsub _ hka) (hti.mono hsub) (hS.mono hsub) (hE.mono hsub)
  · rintro m₁ p7 p8 h₁ tk₁ gn₁ hbr ⟨m1, m2, m3⟩ F2 N2
    k_steps
    refine Hold.mk ?_
    exact fin X T O.net.n8 (by lia) hS hE O.feed O.feeds O.wiener F2 m1 m2 m3 N2 hpa hse hea fun h tk st => k h tk gn₁ st hbr
set_option maxHeartbeats 4000000 in
theorem law_main {s : Shared} {g : Heap} {L fa : Addr} {cd : Value} (X : (hd.heap_39 w.params).In g) (T : Top PV LO mean mg mb g) {sa : Addr} {vs : List Value} {xs : List Int} (hl : g.IsList sa vs.toArray) (hi : IntsAre vs xs) (hlen : xs.length ≤ 63)
    (O : ∀ a b c, 33 ≤ a → a < b → b < c → c ≤ 125 → ∃ M dep, LawOk xs (sgOf a b c) M dep)
    {m : Str → Option Value} {o1 o2 o3 o4 o5 o6 o7 o8 : Obj} (F : Fr g L s.heap m) (hm : m "script" = some (.ref sa)) (N : News g L s.heap (cellsL L o1 o2 o3 o4 o5 o6 o7 o8 []))
    (c1 : o1.data = .cell none) (c2 : o2.data = .cell none) (c3 : o3.data = .cell none) (c4 : o4.data = .cell none) (c5 : o5.data = .cell none) (c6 : o6.data = .cell none) (c7 : o7.data = .cell none) (c8 : o8.data = .cell none) {Q : Flow → Shared → Prop}
    (k : ∀ h tk gn, g.StaysIn h → (Bare s.gens → Bare gn) → Q (.ret (.bool true)) { s with heap := h, toks := tk, gens := gn }) :
    wpAny (MD w) (lawA L fa cd) (execs lawDef.body (lawE L fa cd)) Q NE s := by
  refine stageA X T hl hi hlen F hm N c1 ?_
  intro nu ws tn tt p1 h1 tk1 m1 hws d1 F1 a1 a2 N1 hnu
  refine stageB X T hws F1 a1 a2 N1 hnu d1 c2 ?_
  intro ta p2 h2 tk2 m2 imm d2 F2 b1 b2 N2 hp2 hti
  have hpn : Past L ((nu, W.listOf ws.toArray 0) :: imm) := .cons (past_lt (r := [(nu, W.listOf ws.toArray 0)]) (fun p hp => by rw [List.mem_singleton.mp hp]; exact hnu) _ (.head _)) hp2
  refine stageC1 X T F2 N2 hpn d1 c3 ?_
  intro sa3 p3 h3 tk3 sgl a b c ha hab hbc hc hsg d3 F3 N3 hp3 hne3
  refine stageC2 X T F3 b1 N3 hp3 d1 d3 c4 c5 c6 (.tail _ (.head _)) hws (.head _) hsg ?_
  intro ka na ba p4 p5 p6 bo h4 tk4 kvs nl hkv hnl d4 d5 d6 hbd hbm F4 N4 hp4 hne4
  obtain ⟨M, dep, O⟩ := O a b c ha hab hbc hc
  have htl : ∀ p ∈ imm, p ∈ (na, lst (strValues nl)) :: (ka, W.listOf kvs.toArray 0) :: (sa3, W.listOf (strValues sgl).toArray 0) :: (nu, W.listOf ws.toArray 0) :: imm := fun p hp => .tail _ (.tail _ (.tail _ (.tail _ hp)))
  generalize himm : (na, lst (strValues nl)) :: (ka, W.listOf kvs.toArray 0) :: (sa3, W.listOf (strValues sgl).toArray 0) :: (nu, W.listOf ws.toArray 0) :: imm = im2 at N4 hp4 hne4 htl
  have hna : (na, lst (strValues nl)) ∈ im2 := by rw [← himm]; exact .head _
  have hka : (ka, W.listOf kvs.toArray 0) ∈ im2 := by rw [← himm]; exact .tail _ (.head _)
  have hsa : (sa3, W.listOf (strValues sgl).toArray 0) ∈ im2 := by rw [← himm]; exact .tail _ (.tail _ (.head _))
  have hnum : (nu, W.listOf ws.toArray 0) ∈ im2 := by rw [← himm]; exact .tail _ (.tail _ (.tail _ (.head _)))
  have hti2 : Held im2 g fun h => TiesAt h ta (many xs) (nbOf xs) := hti.mono htl
  have hnm2 : Held im2 g fun h => NamesAt h na (many xs) (kdOf xs) (sgOf a b c) := by
    intro h kg ki
    have hnll := congrArg List.length hnl
    rw [List.length_map, List.length_map, List.length_range] at hnll
    refine ⟨(strValues nl).toArray, ⟨_, ki _ hna, rfl, _, rfl⟩, fun v hv => ?_⟩
    have h5 : (nl.map (·.1))[v]? = some ((sgOf a b c).getD (kdOf xs v) Str.empty) := by
      rw [hnl, List.getElem?_map, List.getElem?_range hv]; rfl
    rw [List.getElem?_map] at h5
    obtain ⟨q, hq1, hq2⟩ := Option.map_eq_some_iff.mp h5
    refine ⟨q.2, ?_⟩
    rw [List.getElem?_toArray, strValues, List.getElem?_map, hq1, ← hq2]; rfl
  refine stageD X T O.net O.dep20 hbm F4 (by exact b2) N4 hp4 d2 d5 d6 hti2 hnm2 ⟨hbd, (fun _ h => nomatch h), (fun _ h => h), hne4⟩ ?_
  intro se bo5 h5 tk5 kvs5 tl5 ys5 m5 F5 em5 N5 hp5 hne5 B5 hS5
  subst em5
  refine stageE X T (M := M) (by have := nums_len xs; have hmy : many xs = (nums xs).length + 1 := rfl; lia) F5 (by exact rfl) (by exact rfl) (by exact rfl) N5 (List.mem_append_right (cellsL L p1 p2 p3 p4 p5 p6 o7 o8 []) (.head _)) (hS5.mono fun p hp => List.mem_append_right (cellsL L p1 p2 p3 p4 p5 p6 o7 o8 []) (.tail _ (.tail _ hp))) O.strip ?_
  intro h6 tk6 gn6 m6 hbr6 F6 e1 e2 e3 N6
  refine stageF X T O.net O.dep20 hbm hws F6 e1 e2 e3 N6 hp5 hne5 d2 d5 d6 hti2 hnm2 hnum B5 ?_
  intro ea bo7 h7 tk7 kvs7 tl7 ys7 kk7 m7 F7 f1 f2 f3 N7 hp7 hsi hst hE7
  have hsub7 : ∀ p ∈ tl7, p ∈ (ea, W.listOf ys7.toArray kk7) :: (se, lst ys5) :: (ba, bo7) :: tl7 := fun p hp => .tail _ (.tail _ (.tail _ hp))
  exact stageL X T O hsg hkv F7 f1 f2 f3 N7 hp7 d2 d3 d4 c7 c8 (hsub7 _ (hsi _ hsa)) (.tail _ (.head _)) (.head _) (hsub7 _ (hsi _ hka)) (hti2.mono fun p hp => hsub7 p (hsi p hp)) (hS5.mono fun p hp => hsub7 p (hst p hp)) (hE7.mono hsub7) fun h tk gn st hb => k h tk gn st fun h0 => hb (hbr6 h0)
end
theorem kw_LP_z : True := by
  k_with_none
  trivial
end Mine
end

section
open PySem PySem.W PySem.Spec PySem.Calls PyProof.Rows
set_option Elab.async false
set_option maxRecDepth 100000
namespace Mine
/-! the order of texts is the order of figures -/
def figN (r : Rows) : List Nat := r.map fun p => 4 * p.1 + p.2
theorem lt_pre (l a b : List Nat) : (l ++ a < l ++ b) ↔ a < b := by
  induction l with
  | nil => exact Iff.rfl
  | cons x r ih =>
    rw [List.cons_append, List.cons_append, List.cons_lt_cons_iff]
    constructor
    · rintro (h | ⟨_, h⟩)
      · exact absurd h (Nat.lt_irrefl _)
      · exact ih.mp h
    · exact fun h => .inr ⟨rfl, ih.mpr h⟩
theorem lt_hd {x y : Nat} (a b : List Nat) (h : x < y) : x :: a < y :: b := List.cons_lt_cons_iff.mpr (.inl h)
theorem lt_asymm' : ∀ {a b : List Nat}, a < b → ¬ b < a
  | [], [], h => absurd h (List.not_lt_nil _)
  | [], _ :: _, _ => List.not_lt_nil _
  | _ :: _, [], h => absurd h (List.not_lt_nil _)
  | x :: a, y :: b, h => fun h2 => by
    rcases List.cons_lt_cons_iff.mp h with h | ⟨e, h⟩
    · rcases List.cons_lt_cons_iff.mp h2 with h2 | ⟨e2, h2⟩
      · lia
      · lia
    · rcases List.cons_lt_cons_iff.mp h2 with h2 | ⟨e2, h2⟩
      · lia
      · exact lt_asymm' h h2
theorem lt_tri : ∀ (a b : List Nat), a < b ∨ a = b ∨ b < a
  | [], [] => .inr (.inl rfl)
  | [], _ :: _ => .inl (List.nil_lt_cons _ _)
  | _ :: _, [] => .inr (.inr (List.nil_lt_cons _ _))
  | x :: a, y :: b => by
    rcases Nat.lt_trichotomy x y with h | h | h
    · exact .inl (lt_hd _ _ h)
    · subst h
      rcases lt_tri a b with h | h | h
      · exact .inl (List.cons_lt_cons_iff.mpr (.inr ⟨rfl, h⟩))
      · exact .inr (.inl (by rw [h]))
      · exact .inr (.inr (List.cons_lt_cons_iff.mpr (.inr ⟨rfl, h⟩)))
    · exact .inr (.inr (lt_hd _ _ h))
theorem lt_trans' : ∀ {a b c : List Nat}, a < b → b < c → a < c
  | _, _, [], _, h => absurd h (List.not_lt_nil _)
  | [], _, _ :: _, _, _ => List.nil_lt_cons _ _
  | _ :: _, [], _ :: _, h, _ => absurd h (List.not_lt_nil _)
  | x :: a, y :: b, z :: c, h, h2 => by
    refine List.cons_lt_cons_iff.mpr ?_
    rcases List.cons_lt_cons_iff.mp h with h | ⟨e, h⟩
    · rcases List.cons_lt_cons_iff.mp h2 with h2 | ⟨e2, h2⟩
      · exact .inl (by lia)
      · exact .inl (by lia)
    · rcases List.cons_lt_cons_iff.mp h2 with h2 | ⟨e2, h2⟩
      · exact .inl (by lia)
      · exact .inr ⟨by lia, lt_trans' h h2⟩
/-- the three names rise -/
structure Rise (a b c : Nat) : Prop where
  h1 : 33 ≤ a
  h2 : a < b
  h3 : b < c
  h4 : c ≤ 125
def nmL (a b c : Nat) (k : Nat) : List Nat := if k = 0 then [] else [34, 92, (if k = 1 then a else if k = 2 then b else c), 34]
theorem sg_at {a b c k : Nat} (h : k < 4) : ((sgOf a b c).getD k Str.empty).cps.toList = nmL a b c k := by
  have : k = 0 ∨ k = 1 ∨ k = 2 ∨ k = 3 := by lia
  rcases this with rfl | rfl | rfl | rfl <;> rfl
theorem row_lt {a b c : Nat} (R : Rise a b c) {p q : Nat × Nat} (hp : p.2 < 4) (hq : q.2 < 4) (h : 4 * p.1 + p.2 < 4 * q.1 + q.2) (s t : List Nat) : rowOf (sgOf a b c) p ++ 13 :: s < rowOf (sgOf a b c) q ++ 13 :: t := by
  obtain ⟨d, k⟩ := p
  obtain ⟨e, l⟩ := q
  unfold rowOf
  dsimp only at *
  rw [sg_at hp, sg_at hq]
  obtain ⟨r1, r2, r3, r4⟩ := R
  by_cases hd : d < e
  · obtain ⟨m, rfl⟩ : ∃ m, e = d + (m + 1) := ⟨e - d - 1, by lia⟩
    rw [← List.replicate_append_replicate, List.append_assoc, List.append_assoc, List.append_assoc, lt_pre, List.replicate_succ, List.cons_append]
    unfold nmL
    by_cases hk : k = 0
    · rw [if_pos hk]
      exact lt_hd _ _ (by decide)
    · rw [if_neg hk]
      exact lt_hd _ _ (by decide)
  · have e1 : d = e := by lia
    subst e1
    rw [List.append_assoc, List.append_assoc, lt_pre]
    unfold nmL
    by_cases hk : k = 0
    · have hl0 : ¬ l = 0 := by lia
      rw [if_pos hk, if_neg hl0]
      exact lt_hd _ _ (by decide)
    · have hl0 : ¬ l = 0 := by lia
      rw [if_neg hk, if_neg hl0]
      refine List.cons_lt_cons_iff.mpr (.inr ⟨rfl, List.cons_lt_cons_iff.mpr (.inr ⟨rfl, lt_hd _ _ ?_⟩)⟩)
      have hkl : k = 1 ∧ l = 2 ∨ k = 1 ∧ l = 3 ∨ k = 2 ∧ l = 3 := by lia
      rcases hkl with ⟨rfl, rfl⟩ | ⟨rfl, rfl⟩ | ⟨rfl, rfl⟩ <;> simp <;> lia
theorem mailL_cons (sg : List Str) (p : Nat × Nat) (r : Rows) : mailL sg (p :: r) = rowOf sg p ++ 13 :: 10 :: mailL sg r := by
  unfold mailL; rw [List.map_cons, rowsL_cons]
def ValidR (r : Rows) : Prop := ∀ p ∈ r, p.2 < 4
theorem mail_lt {a b c : Nat} (R : Rise a b c) : ∀ {r q : Rows}, ValidR r → ValidR q → (mailL (sgOf a b c) r < mailL (sgOf a b c) q ↔ figN r < figN q)
  | [], [], _, _ => by
    have h1 : ¬ mailL (sgOf a b c) [] < mailL (sgOf a b c) [] := List.not_lt_nil _
    have h2 : ¬ figN [] < figN [] := List.not_lt_nil _
    exact ⟨fun h => absurd h h1, fun h => absurd h h2⟩
  | [], p :: q, _, _ => by
    rw [mailL_cons]
    refine ⟨fun _ => List.nil_lt_cons _ _, fun _ => ?_⟩
    cases hr : rowOf (sgOf a b c) p with
    | nil => exact List.nil_lt_cons _ _
    | cons x y => exact List.nil_lt_cons _ _
  | p :: r, [], _, _ => ⟨fun h => absurd h (List.not_lt_nil _), fun h => absurd h (List.not_lt_nil _)⟩
  | p :: r, q :: s, hr, hs => by
    have ih := mail_lt R (r := r) (q := s) (fun x hx => hr x (.tail _ hx)) (fun x hx => hs x (.tail _ hx))
    have hp := hr p (.head _)
    have hq := hs q (.head _)
    rw [mailL_cons, mailL_cons]
    show _ ↔ (4 * p.1 + p.2) :: figN r < (4 * q.1 + q.2) :: figN s
    rw [List.cons_lt_cons_iff]
    rcases Nat.lt_trichotomy (4 * p.1 + p.2) (4 * q.1 + q.2) with h | h | h
    · exact ⟨fun _ => .inl h, fun _ => row_lt R hp hq h _ _⟩
    · have e : p = q := by
        obtain ⟨p1, p2⟩ := p
        obtain ⟨q1, q2⟩ := q
        dsimp only at *
        rw [Prod.mk.injEq]; lia
      subst e
      rw [lt_pre, List.cons_lt_cons_iff, List.cons_lt_cons_iff]
      constructor
      · rintro (h | ⟨_, h | ⟨_, h⟩⟩)
        · exact absurd h (Nat.lt_irrefl _)
        · exact absurd h (Nat.lt_irrefl _)
        · exact .inr ⟨rfl, ih.mp h⟩
      · rintro (h | ⟨_, h⟩)
        · exact absurd h (Nat.lt_irrefl _)
        · exact .inr ⟨rfl, .inr ⟨rfl, ih.mpr h⟩⟩
    · refine ⟨fun h2 => absurd h2 (lt_asymm' (row_lt R hq hp h _ _)), ?_⟩
      rintro (h2 | ⟨h2, _⟩) <;> lia
theorem sgn_fig {a b c : Nat} (R : Rise a b c) {r q : Rows} (hr : ValidR r) (hq : ValidR q) : sgn (textR (sgOf a b c) r) (textR (sgOf a b c) q) = b2i (decide (figN q < figN r)) - b2i (decide (figN r < figN q)) := by
  unfold sgn
  have e1 : ∀ r : Rows, (textR (sgOf a b c) r).cps.toList = mailL (sgOf a b c) r := fun r => by simp [textR, strL]
  rw [e1, e1]
  congr 2
  · exact decide_eq_decide.mpr (mail_lt R hq hr)
  · exact decide_eq_decide.mpr (mail_lt R hr hq)
theorem figN_inj : ∀ {r q : Rows}, ValidR r → ValidR q → figN r = figN q → r = q
  | [], [], _, _, _ => rfl
  | [], _ :: _, _, _, h => by cases h
  | _ :: _, [], _, _, h => by cases h
  | p :: r, q :: s, hr, hs, h => by
    have h1 : (4 * p.1 + p.2) :: figN r = (4 * q.1 + q.2) :: figN s := h
    obtain ⟨h2, h3⟩ := List.cons.inj h1
    have hp := hr p (.head _)
    have hq := hs q (.head _)
    have e : p = q := by
      obtain ⟨p1, p2⟩ := p
      obtain ⟨q1, q2⟩ := q
      dsimp only at *
      rw [Prod.mk.injEq]; lia
    rw [e, figN_inj (fun x hx => hr x (.tail _ hx)) (fun x hx => hs x (.tail _ hx)) h3]
theorem b2i_zero {p q : Prop} [Decidable p] [Decidable q] (hpq : ¬ (p ∧ q)) : (b2i (decide p) - b2i (decide q) = 0 ↔ ¬ p ∧ ¬ q) ∧ (0 < b2i (decide p) - b2i (decide q) ↔ p) := by
  by_cases h1 : p <;> by_cases h2 : q <;> simp [h1, h2, b2i] <;> first | exact hpq ⟨h1, h2⟩ | skip
theorem sgn_zero {a b c : Nat} (R : Rise a b c) {r q : Rows} (hr : ValidR r) (hq : ValidR q) : sgn (textR (sgOf a b c) r) (textR (sgOf a b c) q) = 0 ↔ r = q := by
  rw [sgn_fig R hr hq, (b2i_zero fun h => lt_asymm' h.1 h.2).1]
  constructor
  · rintro ⟨h1, h2⟩
    rcases lt_tri (figN r) (figN q) with h | h | h
    · exact absurd h h2
    · exact figN_inj hr hq h
    · exact absurd h h1
  · rintro rfl
    exact ⟨fun h => lt_asymm' h h, fun h => lt_asymm' h h⟩
theorem sgn_pos {a b c : Nat} (R : Rise a b c) {r q : Rows} (hr : ValidR r) (hq : ValidR q) : 0 < sgn (textR (sgOf a b c) r) (textR (sgOf a b c) q) ↔ figN q < figN r := by
  rw [sgn_fig R hr hq, (b2i_zero fun h => lt_asymm' h.1 h.2).2]
/-! numbers -/
def horn (l : List Nat) : Nat := l.foldl (fun v f => v * 64 + f) 0
theorem horn_from (l : List Nat) (v : Nat) : l.foldl (fun v f => v * 64 + f) v = v * 64 ^ l.length + horn l := by
  unfold horn
  induction l generalizing v with
  | nil => simp
  | cons x r ih =>
    rw [List.foldl_cons, List.foldl_cons, ih, ih (0 * 64 + x), List.length_cons, Nat.pow_succ, Nat.zero_mul, Nat.zero_add, Nat.add_mul, Nat.mul_assoc, Nat.mul_comm 64, Nat.add_assoc]
theorem horn_cons (x : Nat) (r : List Nat) : horn (x :: r) = x * 64 ^ r.length + horn r := by
  show r.foldl (fun v f => v * 64 + f) (0 * 64 + x) = _
  rw [horn_from, Nat.zero_mul, Nat.zero_add]
theorem horn_lt : ∀ (l : List Nat), (∀ x ∈ l, x < 64) → horn l < 64 ^ l.length
  | [], _ => by decide
  | x :: r, h => by
    rw [horn_cons, List.length_cons, Nat.pow_succ]
    have h1 := horn_lt r fun y hy => h y (.tail _ hy)
    have h2 := h x (.head _)
    have h3 : x * 64 ^ r.length ≤ 63 * 64 ^ r.length := Nat.mul_le_mul_right _ (by lia)
    lia
theorem horn_mono : ∀ {l m : List Nat}, (∀ x ∈ l, x < 64) → (∀ x ∈ m, x < 64) → l.length = m.length → (l < m ↔ horn l < horn m)
  | [], [], _, _, _ => ⟨fun h => absurd h (List.not_lt_nil _), fun h => absurd h (Nat.lt_irrefl _)⟩
  | [], _ :: _, _, _, h => by simp at h
  | _ :: _, [], _, _, h => by simp at h
  | x :: r, y :: s, hl, hm, h => by
    have hlen : r.length = s.length := by simpa using h
    have ih := horn_mono (l := r) (m := s) (fun z hz => hl z (.tail _ hz)) (fun z hz => hm z (.tail _ hz)) hlen
    have b1 := horn_lt r fun z hz => hl z (.tail _ hz)
    have b2 := horn_lt s fun z hz => hm z (.tail _ hz)
    rw [horn_cons, horn_cons, List.cons_lt_cons_iff, hlen]
    rw [hlen] at b1
    rcases Nat.lt_trichotomy x y with q | q | q
    · have : (x + 1) * 64 ^ s.length ≤ y * 64 ^ s.length := Nat.mul_le_mul_right _ q
      rw [Nat.add_mul, Nat.one_mul] at this
      exact ⟨fun _ => by lia, fun _ => .inl q⟩
    · subst q
      constructor
      · rintro (h | ⟨_, h⟩)
        · exact absurd h (Nat.lt_irrefl _)
        · have := ih.mp h; lia
      · intro h
        exact .inr ⟨rfl, ih.mpr (by lia)⟩
    · have : (y + 1) * 64 ^ s.length ≤ x * 64 ^ s.length := Nat.mul_le_mul_right _ q
      rw [Nat.add_mul, Nat.one_mul] at this
      constructor
      · rintro (h | ⟨h, _⟩) <;> lia
      · intro h; lia
theorem horn_low : ∀ (l : List Nat), l ≠ [] → (∀ x ∈ l, 1 ≤ x) → 64 ^ (l.length - 1) ≤ horn l
  | [], h, _ => absurd rfl h
  | x :: r, _, h => by
    rw [horn_cons, List.length_cons, Nat.add_sub_cancel]
    have h1 := h x (.head _)
    have : 1 * 64 ^ r.length ≤ x * 64 ^ r.length := Nat.mul_le_mul_right _ h1
    lia
theorem horn_inj {l m : List Nat} (hl : ∀ x ∈ l, x < 64 ∧ 1 ≤ x) (hm : ∀ x ∈ m, x < 64 ∧ 1 ≤ x) (h : horn l = horn m) : l = m := by
  have key : ∀ {l m : List Nat}, (∀ x ∈ l, x < 64 ∧ 1 ≤ x) → (∀ x ∈ m, x < 64 ∧ 1 ≤ x) → horn l = horn m → l.length ≤ m.length := by
    intro l m hl hm h
    rcases Nat.lt_or_ge m.length l.length with q | q
    · exfalso
      have hne : l ≠ [] := fun e => by rw [e] at q; exact absurd q (Nat.not_lt_zero _)
      have b1 := horn_low l hne fun x hx => (hl x hx).2
      have b2 := horn_lt m fun x hx => (hm x hx).1
      have : 64 ^ m.length ≤ 64 ^ (l.length - 1) := Nat.pow_le_pow_right (by decide) (by lia)
      lia
    · exact q
  have hlen : l.length = m.length := Nat.le_antisymm (key hl hm h) (key hm hl h.symm)
  rcases lt_tri l m with q | q | q
  · have := (horn_mono (fun x hx => (hl x hx).1) (fun x hx => (hm x hx).1) hlen).mp q; lia
  · exact q
  · have := (horn_mono (fun x hx => (hm x hx).1) (fun x hx => (hl x hx).1) hlen.symm).mp q; lia
theorem num_horn {r : Rows} (h : ∀ p ∈ r, 4 * p.1 + p.2 < 64) : numL (figs r) = ((horn (figN r) : Nat) : Int) := by
  have key : ∀ (fs : List Nat) (v : Nat), (∀ x ∈ fs, x < 64) → (fs.map fun (x : Nat) => (64 + (x : Int))).foldl (fun v f => v * 64 + f % 64) (v : Int) = ((fs.foldl (fun v f => v * 64 + f) v : Nat) : Int) := by
    intro fs
    induction fs with
    | nil => intro v _; rfl
    | cons x r ih =>
      intro v hx
      have h1 := hx x (.head _)
      rw [List.map_cons, List.foldl_cons, List.foldl_cons, ← ih _ fun y hy => hx y (.tail _ hy)]
      congr 1
      lia
  rcases List.eq_nil_or_concat r with e | ⟨q, x, e⟩
  · subst e; rfl
  · rw [List.concat_eq_append] at e
    subst e
    rw [figs_snoc]
    unfold numL
    rw [carryL_snoc]
    unfold varint
    rw [List.foldl_append]
    have h1 : (figs q).map (64 + ·) = (figN q).map fun (x : Nat) => (64 + (x : Int)) := by unfold figs figN; rw [List.map_map, List.map_map]; rfl
    have h2 : ∀ y ∈ figN q, y < 64 := fun y hy => by
      obtain ⟨p, hp, rfl⟩ := List.mem_map.mp hy
      exact h p (List.mem_append_left _ hp)
    have hx := h x (List.mem_append_right _ (.head _))
    have h3 := key (figN q) 0 h2
    rw [h1]
    show ((figN q).map fun (x : Nat) => (64 + (x : Int))).foldl _ ((0 : Nat) : Int) * 64 + _ % 64 = _
    rw [h3]
    unfold figN horn
    rw [List.map_append, List.foldl_append]
    show _ = ((List.foldl _ _ _ * 64 + (4 * x.1 + x.2) : Nat) : Int)
    lia
end Mine
end

section
open PySem PySem.W PySem.Spec PySem.Calls PyProof.Rows
set_option Elab.async false
set_option maxRecDepth 100000
namespace Mine
/-! the order of sorting -/
def ltC (x y : Rows) : Prop := figN (bareR x) < figN (bareR y) ∨ (bareR x = bareR y ∧ figN x < figN y)
theorem bare_valid (r : Rows) : ValidR (bareR r) := fun p hp => by
  obtain ⟨y, _, rfl⟩ := List.mem_map.mp hp
  exact Nat.zero_lt_succ 3
theorem ltC_asymm {x y : Rows} (h : ltC x y) : ¬ ltC y x := by
  rintro (h2 | ⟨e2, h2⟩)
  · rcases h with h | ⟨e, h⟩
    · exact lt_asymm' h h2
    · rw [e] at h2; exact lt_asymm' h2 h2
  · rcases h with h | ⟨e, h⟩
    · rw [e2] at h; exact lt_asymm' h h
    · exact lt_asymm' h h2
theorem ltC_tri {x y : Rows} (hx : ValidR x) (hy : ValidR y) : ltC x y ∨ x = y ∨ ltC y x := by
  rcases lt_tri (figN (bareR x)) (figN (bareR y)) with h | h | h
  · exact .inl (.inl h)
  · have hb := figN_inj (bare_valid x) (bare_valid y) h
    rcases lt_tri (figN x) (figN y) with q | q | q
    · exact .inl (.inr ⟨hb, q⟩)
    · exact .inr (.inl (figN_inj hx hy q))
    · exact .inr (.inr (.inr ⟨hb.symm, q⟩))
  · exact .inr (.inr (.inl h))
theorem ltC_trans {x y z : Rows} (h : ltC x y) (h2 : ltC y z) : ltC x z := by
  rcases h with h | ⟨e, h⟩
  · rcases h2 with h2 | ⟨e2, h2⟩
    · exact .inl (lt_trans' h h2)
    · exact .inl (e2 ▸ h)
  · rcases h2 with h2 | ⟨e2, h2⟩
    · exact .inl (e ▸ h2)
    · exact .inr ⟨e.trans e2, lt_trans' h h2⟩
theorem cmp_pos {a b c : Nat} (R : Rise a b c) {x y : Rows} (hx : ValidR x) (hy : ValidR y) : 0 < cmpR (sgOf a b c) x y ↔ ltC y x := by
  unfold cmpR
  have hz := sgn_zero R (bare_valid x) (bare_valid y)
  have hp := sgn_pos R (bare_valid x) (bare_valid y)
  by_cases h : sgn (textR (sgOf a b c) (bareR x)) (textR (sgOf a b c) (bareR y)) = 0
  · rw [if_neg (fun q => q h), sgn_pos R hx hy]
    have e := hz.mp h
    refine ⟨fun q => .inr ⟨e.symm, q⟩, ?_⟩
    rintro (q | ⟨_, q⟩)
    · rw [e] at q; exact absurd q (lt_asymm' q)
    · exact q
  · rw [if_pos h, hp]
    refine ⟨fun q => .inl q, ?_⟩
    rintro (q | ⟨e, _⟩)
    · exact q
    · exact absurd (hz.mpr e.symm) h
def SortedC (l : List Rows) : Prop := l.Pairwise fun x y => ¬ ltC y x
theorem insR_perm (sg : List Str) (a : Rows) (ps : List Rows) : (insR sg a ps).Perm (a :: ps) := by
  unfold insR
  have h := List.perm_middle (a := a) (l₁ := ps.take (spotR sg a ps)) (l₂ := ps.drop (spotR sg a ps))
  rw [List.take_append_drop] at h
  exact h
theorem sortR_perm (sg : List Str) (l : List Rows) : (sortR sg l).Perm l := by
  have key : ∀ (l acc : List Rows), (l.foldl (fun ps a => insR sg a ps) acc).Perm (acc ++ l) := by
    intro l
    induction l with
    | nil => intro acc; rw [List.append_nil]; exact .refl _
    | cons a r ih =>
      intro acc
      rw [List.foldl_cons]
      refine (ih _).trans ?_
      refine ((insR_perm sg a acc).append_right r).trans ?_
      rw [List.cons_append]
      exact List.perm_middle.symm
  have := key l []
  rwa [List.nil_append] at this
theorem insR_cons (sg : List Str) (a q : Rows) (r : List Rows) : insR sg a (q :: r) = if 0 < cmpR sg a q then q :: insR sg a r else a :: q :: r := by
  unfold insR
  rw [spotR]
  split
  · rw [List.take_succ_cons, List.drop_succ_cons, List.cons_append]
  · rfl
theorem insR_sorted {a b c : Nat} (R : Rise a b c) {x : Rows} (hx : ValidR x) : ∀ {ps : List Rows}, (∀ r ∈ ps, ValidR r) → SortedC ps → SortedC (insR (sgOf a b c) x ps)
  | [], _, _ => by
    show SortedC [x]
    exact List.pairwise_singleton _ _
  | q :: r, hv, hs => by
    have hq := hv q (.head _)
    have hs' := List.pairwise_cons.mp hs
    rw [insR_cons]
    split
    · rename_i h
      rw [cmp_pos R hx hq] at h
      refine List.pairwise_cons.mpr ⟨fun y hy => ?_, insR_sorted R hx (fun y hy => hv y (.tail _ hy)) hs'.2⟩
      rcases mem_insR hy with rfl | hy
      · exact ltC_asymm h
      · exact hs'.1 y hy
    · rename_i h
      rw [cmp_pos R hx hq] at h
      refine List.pairwise_cons.mpr ⟨fun y hy => ?_, hs⟩
      rcases List.mem_cons.mp hy with rfl | hy2
      · exact h
      · intro hyx
        rcases ltC_tri hx hq with q1 | q1 | q1
        · exact hs'.1 y hy2 (ltC_trans hyx q1)
        · rw [q1] at hyx; exact hs'.1 y hy2 hyx
        · exact h q1
theorem sortR_sorted {a b c : Nat} (R : Rise a b c) {l : List Rows} (hl : ∀ r ∈ l, ValidR r) : SortedC (sortR (sgOf a b c) l) := by
  have key : ∀ (l acc : List Rows), (∀ r ∈ l, ValidR r) → (∀ r ∈ acc, ValidR r) → SortedC acc → SortedC (l.foldl (fun ps a' => insR (sgOf a b c) a' ps) acc) := by
    intro l
    induction l with
    | nil => intro acc _ _ h; exact h
    | cons x r ih =>
      intro acc h1 h2 h3
      rw [List.foldl_cons]
      refine ih _ (fun y hy => h1 y (.tail _ hy)) (fun y hy => ?_) (insR_sorted R (h1 x (.head _)) h2 h3)
      rcases mem_insR hy with rfl | hy
      · exact h1 _ (.head _)
      · exact h2 y hy
  exact key l [] hl (fun _ h => nomatch h) List.Pairwise.nil
theorem sortedU_eq {α : Type} {lt : α → α → Prop} {P : α → Prop} (tri : ∀ x y, P x → P y → lt x y ∨ x = y ∨ lt y x) : ∀ {l m : List α}, (∀ x ∈ l, P x) → l.Pairwise (fun x y => ¬ lt y x) → m.Pairwise (fun x y => ¬ lt y x) → l.Perm m → l = m
  | [], m, _, _, _, h => (List.Perm.nil_eq h)
  | x :: l, [], _, _, _, h => absurd h.length_eq (by simp)
  | x :: l, y :: m, hp, hl, hm, h => by
    have hl' := List.pairwise_cons.mp hl
    have hm' := List.pairwise_cons.mp hm
    have hyP : P y := hp y (h.mem_iff.mpr (.head _))
    have e : x = y := by
      rcases tri x y (hp x (.head _)) hyP with q | q | q
      · rcases List.mem_cons.mp (h.mem_iff.mp (List.mem_cons_self (a := x) (l := l))) with r | r
        · exact r
        · exact absurd q (hm'.1 x r)
      · exact q
      · rcases List.mem_cons.mp (h.mem_iff.mpr (List.mem_cons_self (a := y) (l := m))) with r | r
        · exact r.symm
        · exact absurd q (hl'.1 y r)
    subst e
    rw [sortedU_eq tri (fun z hz => hp z (.tail _ hz)) hl'.2 hm'.2 (List.Perm.cons_inv h)]
theorem sortR_eq {a b c : Nat} (R : Rise a b c) {l m : List Rows} (hl : ∀ r ∈ l, ValidR r) (hm : ∀ r ∈ m, ValidR r) : sortR (sgOf a b c) l = sortR (sgOf a b c) m ↔ l.Perm m := by
  constructor
  · intro h
    exact (sortR_perm (sgOf a b c) l).symm.trans (h ▸ sortR_perm (sgOf a b c) m)
  · intro h
    refine sortedU_eq (lt := ltC) (P := ValidR) (fun x y hx hy => ltC_tri hx hy) (fun x hx => hl x (mem_sortR hx)) (sortR_sorted R hl) (sortR_sorted R hm) ?_
    exact (sortR_perm _ l).trans (h.trans (sortR_perm _ m).symm)
theorem sortB_eq {a b c : Nat} (R : Rise a b c) {l m : List Rows} (hl : ∀ r ∈ l, ValidR r) (hm : ∀ r ∈ m, ValidR r) : (sortR (sgOf a b c) l).map bareR = (sortR (sgOf a b c) m).map bareR ↔ (l.map bareR).Perm (m.map bareR) := by
  have pl := (sortR_perm (sgOf a b c) l).map bareR
  have pm := (sortR_perm (sgOf a b c) m).map bareR
  have hs : ∀ {l : List Rows}, (∀ r ∈ l, ValidR r) → ((sortR (sgOf a b c) l).map bareR).Pairwise fun x y => ¬ figN y < figN x := fun hl => by
    refine List.pairwise_map.mpr ((sortR_sorted R hl).imp fun h q => h (.inl q))
  constructor
  · intro h
    exact pl.symm.trans (h ▸ pm)
  · intro h
    refine sortedU_eq (lt := fun x y : Rows => figN x < figN y) (P := ValidR) (fun x y hx hy => ?_) (fun x hx => ?_) (hs hl) (hs hm) (pl.trans (h.trans pm.symm))
    · rcases lt_tri (figN x) (figN y) with q | q | q
      · exact .inl q
      · exact .inr (.inl (figN_inj hx hy q))
      · exact .inr (.inr q)
    · obtain ⟨y, _, rfl⟩ := List.mem_map.mp hx
      exact bare_valid y
/-! a node tells its parts -/
def TreeR (r : Rows) : Prop := ∃ k t, r = (2, k) :: t ∧ ∀ p ∈ t, 3 ≤ p.1
theorem split_inj : ∀ {t t' : Rows} {F F' : Rows}, (∀ p ∈ t, 3 ≤ p.1) → (∀ p ∈ t', 3 ≤ p.1) → (∀ p, F.head? = some p → p.1 = 2) → (∀ p, F'.head? = some p → p.1 = 2) → t ++ F = t' ++ F' → t = t' ∧ F = F'
  | [], [], _, _, _, _, _, _, h => ⟨rfl, h⟩
  | [], p :: t', F, F', _, h2, h3, _, h => by
    have h1 := h2 p (.head _)
    have h4 := h3 p (by rw [show F = p :: t' ++ F' from h]; rfl)
    lia
  | p :: t, [], F, F', h1, _, _, h4, h => by
    have h5 := h1 p (.head _)
    have h6 := h4 p (by rw [show F' = p :: t ++ F from h.symm]; rfl)
    lia
  | p :: t, q :: t', F, F', h1, h2, h3, h4, h => by
    have h' : p :: (t ++ F) = q :: (t' ++ F') := h
    obtain ⟨e1, e2⟩ := List.cons.inj h'
    obtain ⟨e3, e4⟩ := split_inj (fun x hx => h1 x (.tail _ hx)) (fun x hx => h2 x (.tail _ hx)) h3 h4 e2
    exact ⟨by rw [e1, e3], e4⟩
theorem flatten_head {ps : List Rows} (h : ∀ r ∈ ps, TreeR r) : ∀ p, ps.flatten.head? = some p → p.1 = 2 := fun p hp => by
  cases ps with
  | nil => cases hp
  | cons r q =>
    obtain ⟨k, t, rfl, _⟩ := h r (.head _)
    cases hp; rfl
theorem flatten_inj : ∀ {ps qs : List Rows}, (∀ r ∈ ps, TreeR r) → (∀ r ∈ qs, TreeR r) → ps.flatten = qs.flatten → ps = qs
  | [], [], _, _, _ => rfl
  | [], q :: qs, _, h2, h => by
    obtain ⟨k, t, rfl, _⟩ := h2 q (.head _)
    cases h
  | p :: ps, [], h1, _, h => by
    obtain ⟨k, t, rfl, _⟩ := h1 p (.head _)
    cases h
  | p :: ps, q :: qs, h1, h2, h => by
    obtain ⟨k, t, rfl, ht⟩ := h1 p (.head _)
    obtain ⟨k', t', rfl, ht'⟩ := h2 q (.head _)
    have h' : (2, k) :: (t ++ ps.flatten) = (2, k') :: (t' ++ qs.flatten) := h
    obtain ⟨e1, e2⟩ := List.cons.inj h'
    obtain ⟨e3, e4⟩ := split_inj ht ht' (flatten_head fun x hx => h1 x (.tail _ hx)) (flatten_head fun x hx => h2 x (.tail _ hx)) e2
    rw [e1, e3, flatten_inj (fun x hx => h1 x (.tail _ hx)) (fun x hx => h2 x (.tail _ hx)) e4]
theorem upR_inj : ∀ {r q : Rows}, upR r = upR q → r = q
  | [], [], _ => rfl
  | [], _ :: _, h => by cases h
  | _ :: _, [], h => by cases h
  | p :: r, q :: s, h => by
    have h' : (p.1 + 1, p.2) :: upR r = (q.1 + 1, q.2) :: upR s := h
    obtain ⟨e1, e2⟩ := List.cons.inj h'
    rw [Prod.mk.injEq] at e1
    have : p = q := by
      obtain ⟨p1, p2⟩ := p
      obtain ⟨q1, q2⟩ := q
      dsimp only at *
      rw [Prod.mk.injEq]; lia
    rw [this, upR_inj e2]
theorem node_inj {k k' : Nat} {ps qs : List Rows} (h1 : ∀ r ∈ ps, TreeR r) (h2 : ∀ r ∈ qs, TreeR r) : nodeR k ps = nodeR k' qs ↔ k = k' ∧ ps = qs := by
  constructor
  · intro h
    have h' : ((2, k) : Nat × Nat) :: upR ps.flatten = (2, k') :: upR qs.flatten := h
    obtain ⟨e1, e2⟩ := List.cons.inj h'
    exact ⟨(Prod.mk.inj e1).2, flatten_inj h1 h2 (upR_inj e2)⟩
  · rintro ⟨rfl, rfl⟩; rfl
theorem node_tree {k : Nat} {ps : List Rows} (h : ∀ r ∈ ps, TreeR r) : TreeR (nodeR k ps) := by
  refine ⟨k, _, rfl, fun p hp => ?_⟩
  obtain ⟨q, hq, rfl⟩ := List.mem_map.mp hp
  obtain ⟨r, hr, hqr⟩ := List.mem_flatten.mp hq
  obtain ⟨k', t, rfl, ht⟩ := h r hr
  show 3 ≤ q.1 + 1
  rcases List.mem_cons.mp hqr with rfl | hqr
  · exact Nat.le_refl _
  · have := ht q hqr; lia
theorem bare_tree {r : Rows} (h : TreeR r) : TreeR (bareR r) := by
  obtain ⟨k, t, rfl, ht⟩ := h
  refine ⟨0, _, rfl, fun p hp => ?_⟩
  obtain ⟨q, hq, rfl⟩ := List.mem_map.mp hp
  exact ht q hq
end Mine
end

section
open PySem PySem.W PySem.Spec PySem.Calls PyProof.Rows
set_option Elab.async false
set_option linter.unusedSectionVars false
set_option maxRecDepth 100000
namespace Mine
/-! the tree and its mails -/
structure Tr (n : Nat) (p : Nat → Nat) : Prop where
  pos : 1 ≤ n
  n8 : n ≤ 8
  lt : ∀ c, c ≠ 0 → p c < c
def chL (n : Nat) (p : Nat → Nat) (v : Nat) : List Nat := (List.range n).filter fun c => decide (c ≠ 0 ∧ p c = v)
def nbL (n : Nat) (p : Nat → Nat) (v : Nat) : List Nat := nbp p (n - 1) v
def rank (n : Nat) (p : Nat → Nat) (v : Nat) (u : Int) : Nat := if v ≠ 0 ∧ u = ((p v : Nat) : Int) then n - v else n + v + 1
def kidsL (n : Nat) (p : Nat → Nat) (v : Nat) (u : Int) : List Nat := (nbL n p v).filter fun (w : Nat) => decide ((w : Int) ≠ u)
def MF (n : Nat) (p : Nat → Nat) (kd : Nat → Nat) (sg : List Str) : Nat → Nat → Int → Rows
  | 0, _, _ => []
  | f + 1, v, u => nodeR (kd v) (sortR sg ((kidsL n p v u).map fun (w : Nat) => MF n p kd sg f w (v : Int)))
def MM (n : Nat) (p : Nat → Nat) (kd : Nat → Nat) (sg : List Str) (v : Nat) (u : Int) : Rows := MF n p kd sg 20 v u
section
variable {n : Nat} {p : Nat → Nat} (t : Tr n p)
include t
theorem Tr.mem_ch {v c : Nat} : c ∈ chL n p v ↔ c < n ∧ c ≠ 0 ∧ p c = v := by
  unfold chL
  rw [List.mem_filter, List.mem_range, decide_eq_true_eq]
theorem Tr.nb_eq {v : Nat} (hv : v < n) : nbL n p v = (if v ≠ 0 then [p v] else []) ++ chL n p v := by
  have := t.pos
  unfold nbL nbp chL
  rw [show n - 1 + 1 = n by lia]
  congr 1
  by_cases h : v = 0
  · rw [if_neg (by lia), if_neg (by lia)]
  · rw [if_pos ⟨h, by lia⟩, if_pos h]
theorem Tr.mem_nb {v w : Nat} (hv : v < n) : w ∈ nbL n p v ↔ (v ≠ 0 ∧ w = p v) ∨ (w < n ∧ w ≠ 0 ∧ p w = v) := by
  rw [t.nb_eq hv, List.mem_append, t.mem_ch]
  by_cases h : v = 0
  · rw [if_neg (by lia)]; simp [h]
  · rw [if_pos h, List.mem_singleton]; simp [h]
theorem Tr.nb_lt {v w : Nat} (hv : v < n) (h : w ∈ nbL n p v) : w < n := by
  rcases (t.mem_nb hv).mp h with ⟨h0, rfl⟩ | h
  · have := t.lt v h0; lia
  · exact h.1
theorem Tr.ch_nodup (v : Nat) : (chL n p v).Nodup := List.Pairwise.filter _ List.nodup_range
theorem Tr.nb_nodup {v : Nat} (hv : v < n) : (nbL n p v).Nodup := by
  rw [t.nb_eq hv]
  by_cases h : v = 0
  · rw [if_neg (by lia), List.nil_append]; exact t.ch_nodup v
  · rw [if_pos h, List.singleton_append, List.nodup_cons]
    refine ⟨fun q => ?_, t.ch_nodup v⟩
    have h1 := t.mem_ch.mp q
    have h2 := t.lt v h
    have h3 := t.lt (p v) h1.2.1
    lia
theorem Tr.nb_len {v : Nat} (hv : v < n) : (nbL n p v).length ≤ 8 := by
  have := nodup_le n _ (t.nb_nodup hv) fun x hx => t.nb_lt hv hx
  have := t.n8
  lia
theorem Tr.rank_lt {v w : Nat} {u : Int} (hv : v < n) (hw : w ∈ nbL n p v) (hu : (w : Int) ≠ u) : rank n p w v < rank n p v u := by
  unfold rank
  rcases (t.mem_nb hv).mp hw with ⟨h0, rfl⟩ | ⟨h1, h2, h3⟩
  · have h4 := t.lt v h0
    rw [if_neg (fun q => by
      have h5 := t.lt (p v) q.1
      lia), if_neg (fun q => hu (by rw [q.2]))]
    lia
  · have h4 := t.lt w h2
    rw [if_pos ⟨h2, by rw [h3]⟩]
    split <;> lia
theorem Tr.rank_20 {v : Nat} (hv : v < n) (u : Int) : rank n p v u < 19 := by
  have := t.n8
  unfold rank
  split <;> lia
theorem Tr.MF_eq (kd : Nat → Nat) (sg : List Str) : ∀ (f f' v : Nat) (u : Int), v < n → rank n p v u < f → rank n p v u < f' → MF n p kd sg f v u = MF n p kd sg f' v u
  | 0, _, _, _, _, h, _ => absurd h (Nat.not_lt_zero _)
  | _ + 1, 0, _, _, _, _, h => absurd h (Nat.not_lt_zero _)
  | f + 1, f' + 1, v, u, hv, h, h' => by
    unfold MF
    have : (kidsL n p v u).map (fun (w : Nat) => MF n p kd sg f w (v : Int)) = (kidsL n p v u).map fun (w : Nat) => MF n p kd sg f' w (v : Int) := by
      refine List.map_congr_left fun w hw => ?_
      have h1 := List.mem_filter.mp hw
      have h2 := t.rank_lt hv h1.1 (by simpa using h1.2)
      exact Tr.MF_eq kd sg f f' w v (t.nb_lt hv h1.1) (by lia) (by lia)
    rw [this]
theorem Tr.MM_eq (kd : Nat → Nat) (sg : List Str) {v : Nat} (hv : v < n) (u : Int) : MM n p kd sg v u = nodeR (kd v) (sortR sg ((kidsL n p v u).map fun (w : Nat) => MM n p kd sg w (v : Int))) := by
  show MF n p kd sg (19 + 1) v u = _
  rw [MF]
  have : (kidsL n p v u).map (fun (w : Nat) => MF n p kd sg 19 w (v : Int)) = (kidsL n p v u).map fun (w : Nat) => MM n p kd sg w (v : Int) := by
    refine List.map_congr_left fun w hw => ?_
    have h1 := List.mem_filter.mp hw
    have h2 := t.nb_lt hv h1.1
    have h3 := t.rank_20 h2 v
    exact t.MF_eq kd sg 19 20 w v h2 h3 (by lia)
  rw [this]
theorem Tr.induct {P : Nat → Int → Prop} (step : ∀ v u, v < n → (∀ w, w ∈ kidsL n p v u → P w (v : Int)) → P v u) {v : Nat} (hv : v < n) (u : Int) : P v u := by
  have key : ∀ f v u, v < n → rank n p v u < f → P v u := by
    intro f
    induction f with
    | zero => intro v u _ h; exact absurd h (Nat.not_lt_zero _)
    | succ f ih =>
      intro v u hv h
      refine step v u hv fun w hw => ?_
      have h1 := List.mem_filter.mp hw
      have h2 := t.rank_lt hv h1.1 (by simpa using h1.2)
      exact ih w v (t.nb_lt hv h1.1) (by lia)
  exact key _ v u hv (Nat.lt_succ_self _)
end
/-! sums -/
def sumN (f : Nat → Int) (l : List Nat) : Int := (l.map f).sum
theorem sumN_nil (f : Nat → Int) : sumN f [] = 0 := rfl
theorem sumN_cons (f : Nat → Int) (a : Nat) (l : List Nat) : sumN f (a :: l) = f a + sumN f l := by simp [sumN]
theorem sumN_append (f : Nat → Int) (l m : List Nat) : sumN f (l ++ m) = sumN f l + sumN f m := by simp [sumN]
theorem sumN_add (f g : Nat → Int) : ∀ l : List Nat, sumN (fun x => f x + g x) l = sumN f l + sumN g l
  | [] => rfl
  | a :: l => by rw [sumN_cons, sumN_cons, sumN_cons, sumN_add f g l]; lia
theorem sumN_const (k : Int) : ∀ l : List Nat, sumN (fun _ => k) l = k * (l.length : Int)
  | [] => by simp [sumN]
  | a :: l => by rw [sumN_cons, sumN_const k l, List.length_cons, Int.natCast_add, Int.mul_add]; simp; lia
theorem sumN_mul (k : Int) (f : Nat → Int) : ∀ l : List Nat, sumN (fun x => k * f x) l = k * sumN f l
  | [] => by simp [sumN]
  | a :: l => by rw [sumN_cons, sumN_cons, sumN_mul k f l, Int.mul_add]
theorem sumN_congr {f g : Nat → Int} : ∀ {l : List Nat}, (∀ x ∈ l, f x = g x) → sumN f l = sumN g l
  | [], _ => rfl
  | a :: l, h => by rw [sumN_cons, sumN_cons, h a (.head _), sumN_congr fun x hx => h x (.tail _ hx)]
theorem sumN_ite (k : Nat) (c : Int) : ∀ (l : List Nat), l.Nodup → k ∈ l → sumN (fun v => if k = v then c else 0) l = c
  | [], _, h => nomatch h
  | a :: l, hn, h => by
    have hn' := List.nodup_cons.mp hn
    rw [sumN_cons]
    by_cases q : k = a
    · subst q
      rw [if_pos rfl, sumN_congr (g := fun _ => 0) (fun x hx => if_neg fun (e : k = x) => hn'.1 (by rw [e]; exact hx)), sumN_const]
      lia
    · rw [if_neg q, sumN_ite k c l hn'.2 ((List.mem_cons.mp h).resolve_left q), Int.zero_add]
theorem sumN_filter_ne {f : Nat → Int} {u : Nat} : ∀ {l : List Nat}, l.Nodup → u ∈ l → sumN f (l.filter fun (w : Nat) => decide ((w : Int) ≠ (u : Int))) + f u = sumN f l
  | [], _, h => nomatch h
  | a :: l, hn, h => by
    have hn' := List.nodup_cons.mp hn
    rw [List.filter_cons, sumN_cons]
    by_cases q : u = a
    · subst q
      rw [if_neg (by simp), List.filter_eq_self.mpr (fun x hx => by
        rw [decide_eq_true_eq]
        intro e
        exact hn'.1 (Int.ofNat_inj.mp e ▸ hx))]
      lia
    · rw [if_pos (by rw [decide_eq_true_eq]; lia), sumN_cons]
      have := sumN_filter_ne (f := f) hn'.2 ((List.mem_cons.mp h).resolve_left q)
      lia
/-- all but place 0 -/
def upL (n : Nat) : List Nat := (List.range n).filter fun c => decide (c ≠ 0)
theorem Tr.swap {n : Nat} {p : Nat → Nat} (t : Tr n p) (f : Nat → Int) : sumN (fun v => sumN f (chL n p v)) (List.range n) = sumN f (upL n) := by
  have key : ∀ l : List Nat, (∀ c ∈ l, c < n) → sumN (fun v => sumN f (l.filter fun c => decide (c ≠ 0 ∧ p c = v))) (List.range n) = sumN f (l.filter fun c => decide (c ≠ 0)) := by
    intro l
    induction l with
    | nil => intro _; rw [List.filter_nil, sumN_nil, sumN_congr (g := fun _ => 0) (fun x hx => by rw [List.filter_nil, sumN_nil]), sumN_const]; lia
    | cons a l ih =>
      intro h
      have ih' := ih fun c hc => h c (.tail _ hc)
      by_cases h0 : a = 0
      · rw [List.filter_cons, if_neg (by simp [h0]), ← ih']
        refine sumN_congr fun v _ => ?_
        rw [List.filter_cons, if_neg (by simp [h0])]
      · rw [List.filter_cons (p := fun c => decide (c ≠ 0)), if_pos (by simp [h0]), sumN_cons, ← ih']
        have h1 : p a ∈ List.range n := List.mem_range.mpr (by have := t.lt a h0; have := h a (.head _); lia)
        have h2 := sumN_ite (p a) (f a) (List.range n) List.nodup_range h1
        rw [← h2, ← sumN_add]
        refine sumN_congr fun v _ => ?_
        rw [List.filter_cons]
        by_cases q : p a = v
        · rw [if_pos (by simp [h0, q]), sumN_cons, if_pos q]
        · rw [if_neg (by simp [q]), if_neg q, Int.zero_add]
  exact key (List.range n) fun c hc => List.mem_range.mp hc
theorem range_up {n : Nat} (h : 1 ≤ n) (f : Nat → Int) : sumN f (List.range n) = f 0 + sumN f (upL n) := by
  obtain ⟨m, rfl⟩ : ∃ m, n = m + 1 := ⟨n - 1, by lia⟩
  unfold upL
  rw [List.range_succ_eq_map, sumN_cons, List.filter_cons, if_neg (by simp), List.filter_eq_self.mpr (fun x hx => by
    obtain ⟨y, _, rfl⟩ := List.mem_map.mp hx
    simp)]
end Mine
end

section
open PySem PySem.W PySem.Spec PySem.Calls PyProof.Rows
set_option Elab.async false
set_option linter.unusedSectionVars false
set_option maxRecDepth 100000
namespace Mine
/-! rows and dots -/
def sumR (g : Rows → Int) (l : List Rows) : Int := (l.map g).sum
theorem sumR_perm (g : Rows → Int) {l m : List Rows} (h : l.Perm m) : sumR g l = sumR g m := by
  unfold sumR
  have key : ∀ {a b : List Int}, a.Perm b → a.sum = b.sum := fun h => by
    induction h with
    | nil => rfl
    | cons x _ ih => simp [ih]
    | swap x y l => simp; lia
    | trans _ _ h1 h2 => exact h1.trans h2
  exact key (h.map g)
def lenI (r : Rows) : Int := (r.length : Int)
def dotI (r : Rows) : Int := (r.map fun p => ((p.1 : Nat) : Int)).sum
theorem dotI_append (r q : Rows) : dotI (r ++ q) = dotI r + dotI q := by simp [dotI]
theorem dotI_up : ∀ r : Rows, dotI (upR r) = dotI r + lenI r
  | [] => rfl
  | p :: r => by
    have h := dotI_up r
    show ((p.1 + 1 : Nat) : Int) + dotI (upR r) = ((p.1 : Nat) : Int) + dotI r + (((p :: r).length : Nat) : Int)
    unfold lenI at h
    rw [h, List.length_cons]
    lia
theorem len_flatten : ∀ ps : List Rows, lenI ps.flatten = sumR lenI ps
  | [] => rfl
  | p :: ps => by
    have h := len_flatten ps
    unfold lenI sumR at *
    rw [List.flatten_cons, List.length_append, List.map_cons, List.sum_cons, ← h]
    lia
theorem dot_flatten : ∀ ps : List Rows, dotI ps.flatten = sumR dotI ps
  | [] => rfl
  | p :: ps => by
    have h := dot_flatten ps
    unfold sumR at *
    rw [List.flatten_cons, dotI_append, List.map_cons, List.sum_cons, ← h]
theorem node_len (k : Nat) (ps : List Rows) : lenI (nodeR k ps) = 1 + sumR lenI ps := by
  rw [← len_flatten]
  show (((nodeR k ps).length : Nat) : Int) = 1 + ((ps.flatten.length : Nat) : Int)
  unfold nodeR upR
  rw [List.length_cons, List.length_map]; lia
theorem node_dot (k : Nat) (ps : List Rows) : dotI (nodeR k ps) = 2 + sumR (fun r => dotI r + lenI r) ps := by
  have h : sumR (fun r => dotI r + lenI r) ps = sumR dotI ps + sumR lenI ps := by
    unfold sumR
    induction ps with
    | nil => rfl
    | cons p ps ih => simp only [List.map_cons, List.sum_cons, ih]; lia
  rw [h, ← dot_flatten, ← len_flatten, ← dotI_up]
  rfl
section
variable {n : Nat} {p : Nat → Nat} (t : Tr n p) (kd : Nat → Nat) (sg : List Str)
include t
theorem Tr.ln_eq {v : Nat} (hv : v < n) (u : Int) : lenI (MM n p kd sg v u) = 1 + sumN (fun w => lenI (MM n p kd sg w (v : Int))) (kidsL n p v u) := by
  conv => lhs; rw [t.MM_eq kd sg hv u]
  rw [node_len, sumR_perm lenI (sortR_perm sg _)]
  unfold sumR sumN
  rw [List.map_map]; rfl
theorem Tr.ds_eq {v : Nat} (hv : v < n) (u : Int) : dotI (MM n p kd sg v u) = 2 + sumN (fun w => dotI (MM n p kd sg w (v : Int)) + lenI (MM n p kd sg w (v : Int))) (kidsL n p v u) := by
  conv => lhs; rw [t.MM_eq kd sg hv u]
  rw [node_dot, sumR_perm _ (sortR_perm sg _)]
  unfold sumR sumN
  rw [List.map_map]; rfl
omit t in
def u0 (p : Nat → Nat) (v : Nat) : Int := if v = 0 then -1 else ((p v : Nat) : Int)
theorem Tr.kids_root (v : Nat) : kidsL n p v (-1) = nbL n p v := by
  unfold kidsL
  exact List.filter_eq_self.mpr fun x _ => by rw [decide_eq_true_eq]; lia
theorem Tr.kids_u0 {v : Nat} (hv : v < n) : kidsL n p v (u0 p v) = chL n p v := by
  unfold kidsL
  rw [t.nb_eq hv]
  by_cases h : v = 0
  · subst h
    rw [if_neg (show ¬ (0 : Nat) ≠ 0 by lia), List.nil_append]
    exact List.filter_eq_self.mpr fun x _ => by rw [decide_eq_true_eq]; unfold u0; rw [if_pos rfl]; lia
  · have e : u0 p v = ((p v : Nat) : Int) := by unfold u0; rw [if_neg h]
    rw [e, if_pos h, List.singleton_append, List.filter_cons, if_neg (by simp)]
    refine List.filter_eq_self.mpr fun x hx => ?_
    rw [decide_eq_true_eq]
    intro q
    have h1 := t.mem_ch.mp hx
    have h2 := t.lt x h1.2.1
    have h3 := t.lt v h
    lia
theorem Tr.u0_ch {v c : Nat} (h : c ∈ chL n p v) : u0 p c = ((v : Nat) : Int) := by
  have h1 := t.mem_ch.mp h
  unfold u0
  rw [if_neg h1.2.1, h1.2.2]
omit t in
/-- how many places hang below -/
def szI (n : Nat) (p : Nat → Nat) (kd : Nat → Nat) (sg : List Str) (v : Nat) : Int := lenI (MM n p kd sg v (u0 p v))
theorem Tr.sz_eq {v : Nat} (hv : v < n) : szI n p kd sg v = 1 + sumN (szI n p kd sg) (chL n p v) := by
  unfold szI
  rw [t.ln_eq kd sg hv, t.kids_u0 hv]
  congr 1
  exact sumN_congr fun c hc => by rw [t.u0_ch hc]
theorem Tr.sz_root : szI n p kd sg 0 = (n : Int) := by
  have h1 : sumN (szI n p kd sg) (List.range n) = sumN (fun v => 1 + sumN (szI n p kd sg) (chL n p v)) (List.range n) := sumN_congr fun v hv => t.sz_eq kd sg (List.mem_range.mp hv)
  rw [sumN_add, t.swap, sumN_const, List.length_range, range_up t.pos] at h1
  lia
/-- a place's whole mail: the two sides of a tie -/
theorem Tr.ln_split {v w : Nat} (hv : v < n) (hw : w ∈ nbL n p v) : lenI (MM n p kd sg v (-1)) = lenI (MM n p kd sg v (w : Int)) + lenI (MM n p kd sg w (v : Int)) := by
  rw [t.ln_eq kd sg hv (-1), t.ln_eq kd sg hv (w : Int), t.kids_root]
  have := sumN_filter_ne (f := fun w => lenI (MM n p kd sg w (v : Int))) (t.nb_nodup hv) hw
  unfold kidsL
  lia
theorem Tr.ds_split {v w : Nat} (hv : v < n) (hw : w ∈ nbL n p v) : dotI (MM n p kd sg v (-1)) = dotI (MM n p kd sg v (w : Int)) + dotI (MM n p kd sg w (v : Int)) + lenI (MM n p kd sg w (v : Int)) := by
  rw [t.ds_eq kd sg hv (-1), t.ds_eq kd sg hv (w : Int), t.kids_root]
  have := sumN_filter_ne (f := fun w => dotI (MM n p kd sg w (v : Int)) + lenI (MM n p kd sg w (v : Int))) (t.nb_nodup hv) hw
  unfold kidsL
  lia
theorem Tr.par_nb {v : Nat} (hv : v < n) (h0 : v ≠ 0) : p v ∈ nbL n p v ∧ v ∈ nbL n p (p v) ∧ p v < n := by
  have h1 := t.lt v h0
  have h2 : p v < n := by lia
  exact ⟨(t.mem_nb hv).mpr (.inl ⟨h0, rfl⟩), (t.mem_nb h2).mpr (.inr ⟨hv, h0, rfl⟩), h2⟩
theorem Tr.ln_root : ∀ v, v < n → lenI (MM n p kd sg v (-1)) = (n : Int) := by
  intro v
  induction v using Nat.strongRecOn with
  | ind v ih =>
    intro hv
    by_cases h0 : v = 0
    · subst h0
      have := t.sz_root kd sg
      unfold szI u0 at this
      rwa [if_pos rfl] at this
    · obtain ⟨h1, h2, h3⟩ := t.par_nb hv h0
      have e1 := t.ln_split kd sg hv h1
      have e2 := t.ln_split kd sg h3 h2
      have e3 := ih (p v) (t.lt v h0) h3
      lia
theorem Tr.sz_par {v : Nat} (hv : v < n) (h0 : v ≠ 0) : lenI (MM n p kd sg v ((p v : Nat) : Int)) = szI n p kd sg v ∧ lenI (MM n p kd sg (p v) (v : Int)) = (n : Int) - szI n p kd sg v := by
  obtain ⟨h1, h2, h3⟩ := t.par_nb hv h0
  have e1 := t.ln_split kd sg hv h1
  have e2 := t.ln_root kd sg v hv
  have e3 : szI n p kd sg v = lenI (MM n p kd sg v ((p v : Nat) : Int)) := by unfold szI u0; rw [if_neg h0]
  exact ⟨e3.symm, by lia⟩
theorem Tr.wiener : sumN (fun v => dotI (MM n p kd sg v (-1))) (List.range n) = 2 * (n : Int) * (n : Int) + 2 * sumN (fun c => szI n p kd sg c * ((n : Int) - szI n p kd sg c)) (upL n) := by
  let S : Nat → Int := szI n p kd sg
  let D : Nat → Int := fun v => dotI (MM n p kd sg v (-1))
  let A : Nat → Int := fun v => dotI (MM n p kd sg v (u0 p v))
  have hup : ∀ {c}, c ∈ upL n → c < n ∧ c ≠ 0 := fun h => by
    have := List.mem_filter.mp h
    exact ⟨List.mem_range.mp this.1, by simpa using this.2⟩
  -- the root's dots
  have hA : ∀ v, v < n → A v = 2 + sumN (fun c => A c + S c) (chL n p v) := fun v hv => by
    show dotI (MM n p kd sg v (u0 p v)) = _
    rw [t.ds_eq kd sg hv, t.kids_u0 hv]
    congr 1
    refine sumN_congr fun c hc => ?_
    show _ = dotI (MM n p kd sg c (u0 p c)) + lenI (MM n p kd sg c (u0 p c))
    rw [t.u0_ch hc]
  have h1 : sumN A (List.range n) = sumN (fun v => 2 + sumN (fun c => A c + S c) (chL n p v)) (List.range n) := sumN_congr fun v hv => hA v (List.mem_range.mp hv)
  rw [sumN_add, t.swap, sumN_const, List.length_range, range_up t.pos, sumN_add] at h1
  have hD0 : D 0 = A 0 := by show dotI _ = dotI _; rw [show u0 p 0 = -1 from rfl]
  have hroot : D 0 = 2 * (n : Int) + sumN S (upL n) := by lia
  -- from a place to its parent
  have hstep : ∀ c, c ∈ upL n → D c - D (p c) = (n : Int) - 2 * S c := fun c hc => by
    obtain ⟨hc1, hc2⟩ := hup hc
    obtain ⟨q1, q2, q3⟩ := t.par_nb hc1 hc2
    have e1 := t.ds_split kd sg hc1 q1
    have e2 := t.ds_split kd sg q3 q2
    have e3 := t.sz_par kd sg hc1 hc2
    show dotI _ - dotI _ = _ - 2 * szI n p kd sg c
    lia
  -- by parts
  have hS : ∀ v, v < n → S v = 1 + sumN S (chL n p v) := fun v hv => t.sz_eq kd sg hv
  have h2 : sumN (fun v => S v * D v) (List.range n) = sumN D (List.range n) + sumN (fun c => S c * D (p c)) (upL n) := by
    rw [← t.swap fun c => S c * D (p c), ← sumN_add]
    refine sumN_congr fun v hv => ?_
    have e : sumN (fun c => S c * D (p c)) (chL n p v) = D v * sumN S (chL n p v) := by
      rw [← sumN_mul]
      refine sumN_congr fun c hc => ?_
      rw [(t.mem_ch.mp hc).2.2, Int.mul_comm]
    rw [e, hS v (List.mem_range.mp hv), Int.add_mul, Int.one_mul, Int.mul_comm (D v)]
  rw [range_up t.pos (fun v => S v * D v)] at h2
  have h3 : sumN (fun c => S c * D c) (upL n) = sumN (fun c => S c * D (p c)) (upL n) + sumN (fun c => S c * ((n : Int) - 2 * S c)) (upL n) := by
    rw [← sumN_add]
    refine sumN_congr fun c hc => ?_
    rw [← hstep c hc, ← Int.mul_add]
    congr 1
    lia
  have h4 : S 0 = (n : Int) := t.sz_root kd sg
  have h5 : sumN (fun c => S c * ((n : Int) - 2 * S c)) (upL n) = 2 * sumN (fun c => S c * ((n : Int) - S c)) (upL n) - (n : Int) * sumN S (upL n) := by
    have e : sumN (fun c => S c * ((n : Int) - 2 * S c) + (n : Int) * S c) (upL n) = sumN (fun c => 2 * (S c * ((n : Int) - S c))) (upL n) := by
      refine sumN_congr fun c _ => ?_
      rw [Int.mul_sub, Int.mul_sub, Int.mul_sub, Int.mul_comm (S c) (n : Int), Int.mul_left_comm (S c) 2 (S c)]
      lia
    rw [sumN_add, sumN_mul, sumN_mul] at e
    lia
  rw [h4, hroot, Int.mul_add] at h2
  show sumN D (List.range n) = _
  have h6 : (n : Int) * (2 * (n : Int)) = 2 * (n : Int) * (n : Int) := by rw [Int.mul_comm]
  show sumN D (List.range n) = 2 * (n : Int) * (n : Int) + 2 * sumN (fun c => S c * ((n : Int) - S c)) (upL n)
  lia
end
end Mine
end

section
open PySem PySem.W PySem.Spec PySem.Calls PyProof.Rows
set_option Elab.async false
set_option linter.unusedSectionVars false
set_option maxRecDepth 100000
namespace Mine
/-! Otter -/
def kidsC (n : Nat) (p : Nat → Nat) (C : Nat → Int → Rows) (v : Nat) (u : Int) : List Rows := (kidsL n p v u).map fun (w : Nat) => C w (v : Int)
structure Ott (n : Nat) (p : Nat → Nat) (C : Nat → Int → Rows) (kk : Nat → Int) (S : Nat → Int) : Prop where
  tr : Tr n p
  can : ∀ v v', v < n → v' < n → ∀ u u' : Int, -1 ≤ u → u < n → -1 ≤ u' → u' < n → (C v u = C v' u' ↔ kk v = kk v' ∧ (kidsC n p C v u).Perm (kidsC n p C v' u'))
  len : ∀ v, v < n → ∀ u, lenI (C v u) = 1 + sumN (fun w => lenI (C w (v : Int))) (kidsL n p v u)
  par : ∀ v, v < n → v ≠ 0 → lenI (C v ((p v : Nat) : Int)) = S v ∧ lenI (C (p v) (v : Int)) = (n : Int) - S v
  sz : ∀ v, v < n → S v = 1 + sumN S (chL n p v)
  root : S 0 = (n : Int)
theorem sumN_nonneg {f : Nat → Int} : ∀ {l : List Nat}, (∀ x ∈ l, 0 ≤ f x) → 0 ≤ sumN f l
  | [], _ => by rw [sumN_nil]; exact Int.le_refl _
  | a :: l, h => by
    rw [sumN_cons]
    have := h a (.head _)
    have := sumN_nonneg (f := f) (l := l) fun x hx => h x (.tail _ hx)
    lia
theorem sumN_mem {f : Nat → Int} {x : Nat} : ∀ {l : List Nat}, (∀ y ∈ l, 0 ≤ f y) → x ∈ l → f x ≤ sumN f l
  | [], _, h => nomatch h
  | a :: l, h, hx => by
    rw [sumN_cons]
    have h1 := h a (.head _)
    have h2 := sumN_nonneg (f := f) (l := l) fun x hx => h x (.tail _ hx)
    rcases List.mem_cons.mp hx with rfl | hx
    · lia
    · have := sumN_mem (f := f) (fun y hy => h y (.tail _ hy)) hx; lia
theorem sumN_two {f : Nat → Int} {x y : Nat} : ∀ {l : List Nat}, (∀ z ∈ l, 0 ≤ f z) → x ∈ l → y ∈ l → x ≠ y → f x + f y ≤ sumN f l
  | [], _, h, _, _ => nomatch h
  | a :: l, h, hx, hy, hne => by
    rw [sumN_cons]
    have h1 := h a (.head _)
    have h3 : ∀ z ∈ l, 0 ≤ f z := fun z hz => h z (.tail _ hz)
    rcases List.mem_cons.mp hx with e | hx2
    · rcases List.mem_cons.mp hy with e2 | hy2
      · exact absurd (e.trans e2.symm) hne
      · have := sumN_mem (f := f) h3 hy2; rw [e]; lia
    · rcases List.mem_cons.mp hy with e2 | hy2
      · have := sumN_mem (f := f) h3 hx2; rw [e2]; lia
      · have := sumN_two (f := f) h3 hx2 hy2 hne; lia
/-- the last of those with a property -/
theorem last_of {P : Nat → Prop} [DecidablePred P] : ∀ n : Nat, (∃ v, v < n ∧ P v) → ∃ c, c < n ∧ P c ∧ ∀ v, v < n → P v → v ≤ c
  | 0, ⟨v, h, _⟩ => absurd h (Nat.not_lt_zero _)
  | n + 1, ⟨v, h, hp⟩ => by
    by_cases q : P n
    · exact ⟨n, Nat.lt_succ_self _, q, fun v hv _ => Nat.le_of_lt_succ hv⟩
    · obtain ⟨c, h1, h2, h3⟩ := last_of n ⟨v, by
        rcases Nat.lt_or_eq_of_le (Nat.le_of_lt_succ h) with r | r
        · exact r
        · exact absurd (r ▸ hp) q, hp⟩
      refine ⟨c, by lia, h2, fun v hv hpv => ?_⟩
      rcases Nat.lt_or_eq_of_le (Nat.le_of_lt_succ hv) with r | r
      · exact h3 v r hpv
      · exact absurd (r ▸ hpv) q
theorem perm_pick {α : Type} {f : Nat → α} {u : Nat} : ∀ {l : List Nat}, l.Nodup → u ∈ l → (l.map f).Perm (f u :: (l.filter fun (w : Nat) => decide ((w : Int) ≠ (u : Int))).map f)
  | [], _, h => nomatch h
  | a :: l, hn, h => by
    have hn' := List.nodup_cons.mp hn
    by_cases q : a = u
    · subst q
      rw [List.filter_cons, if_neg (by simp), List.filter_eq_self.mpr (fun x hx => by
        rw [decide_eq_true_eq]
        intro e
        exact hn'.1 (Int.ofNat_inj.mp e ▸ hx))]
      exact .refl _
    · rw [List.filter_cons, if_pos (by rw [decide_eq_true_eq]; lia), List.map_cons, List.map_cons]
      have ih := perm_pick (f := f) hn'.2 ((List.mem_cons.mp h).resolve_left (fun e => q e.symm))
      exact (ih.cons (f a)).trans (.swap _ _ _)
section
variable {n : Nat} {p : Nat → Nat} {C : Nat → Int → Rows} {kk : Nat → Int} {S : Nat → Int} (o : Ott n p C kk S)
include o
theorem Ott.pos {v : Nat} (hv : v < n) (u : Int) : 1 ≤ lenI (C v u) := by
  rw [o.len v hv u]
  have := sumN_nonneg (f := fun w => lenI (C w (v : Int))) (l := kidsL n p v u) fun x _ => by unfold lenI; lia
  lia
theorem Ott.S_pos {v : Nat} (hv : v < n) : 1 ≤ S v ∧ S v ≤ n := by
  by_cases h0 : v = 0
  · subst h0
    rw [o.root]
    have := o.tr.pos
    lia
  · have h1 := o.par v hv h0
    have h2 := o.pos hv ((p v : Nat) : Int)
    have h3 := o.pos (o.tr.par_nb hv h0).2.2 (v : Int)
    lia
theorem Ott.child {v c : Nat} (hv : v < n) (hc : c ∈ chL n p v) : S c + 1 ≤ S v := by
  rw [o.sz v hv]
  have := sumN_mem (f := S) (l := chL n p v) (fun x hx => by
    have := (o.S_pos (o.tr.mem_ch.mp hx).1).1; lia) hc
  lia
theorem Ott.sibs {v c d : Nat} (hv : v < n) (hc : c ∈ chL n p v) (hd : d ∈ chL n p v) (hne : c ≠ d) : S c + S d + 1 ≤ n := by
  have h1 := sumN_two (f := S) (l := chL n p v) (fun x hx => by
    have := (o.S_pos (o.tr.mem_ch.mp hx).1).1; lia) hc hd hne
  have h2 := o.sz v hv
  have h3 := (o.S_pos hv).2
  lia
theorem Ott.up {c : Nat} (hc : c < n) (h0 : c ≠ 0) (h : (n : Int) ≤ 2 * S c) : (n : Int) < 2 * S (p c) := by
  have h1 := (o.tr.par_nb hc h0).2.2
  have := o.child h1 (o.tr.mem_ch.mpr ⟨hc, h0, rfl⟩)
  lia
theorem Ott.chain : ∀ u, u < n → (n : Int) < 2 * S u → ∀ t, t < u → (n : Int) < 2 * S t → ∃ c, c ∈ chL n p t ∧ (n : Int) < 2 * S c ∧ c ≤ u := by
  intro u
  induction u using Nat.strongRecOn with
  | ind u ih =>
    intro hu hhu t htu hht
    have h0 : u ≠ 0 := by lia
    have h1 := o.tr.lt u h0
    have h2 := o.up hu h0 (by lia)
    have hmem : u ∈ chL n p (p u) := o.tr.mem_ch.mpr ⟨hu, h0, rfl⟩
    rcases Nat.lt_trichotomy t (p u) with q | q | q
    · obtain ⟨c, a, b, d⟩ := ih (p u) h1 (by lia) h2 t q hht
      exact ⟨c, a, b, by lia⟩
    · subst q
      exact ⟨u, hmem, hhu, Nat.le_refl _⟩
    · obtain ⟨c, a, b, d⟩ := ih t htu (by lia) hht (p u) q h2
      have := o.sibs (by lia) a hmem (by lia)
      lia
theorem Ott.centre : ∃ c, c < n ∧ (n : Int) < 2 * S c ∧ (∀ v, v < n → (n : Int) < 2 * S v → v ≤ c) ∧ (∀ v, v < n → (n : Int) < 2 * S v → v ≠ c → ∃ d, d ∈ chL n p v ∧ (n : Int) < 2 * S d) ∧
    (∀ b, b < n → 2 * S b = (n : Int) → b ≠ 0 ∧ p b = c) ∧ ∀ b d, b < n → d < n → 2 * S b = (n : Int) → 2 * S d = (n : Int) → b = d := by
  have hn := o.tr.pos
  obtain ⟨c, h1, h2, h3⟩ := last_of (P := fun v => (n : Int) < 2 * S v) n ⟨0, by lia, by rw [o.root]; lia⟩
  have hbal : ∀ b, b < n → 2 * S b = (n : Int) → b ≠ 0 ∧ p b = c := fun b hb hs => by
    have h0 : b ≠ 0 := fun e => by rw [e, o.root] at hs; lia
    refine ⟨h0, ?_⟩
    have h4 := o.up hb h0 (by lia)
    have h5 := (o.tr.par_nb hb h0).2.2
    rcases Nat.lt_or_eq_of_le (h3 _ h5 h4) with q | q
    · obtain ⟨d, a1, a2, a3⟩ := o.chain c h1 h2 (p b) q h4
      have := o.sibs h5 a1 (o.tr.mem_ch.mpr ⟨hb, h0, rfl⟩) (fun e => by rw [e] at a2; lia)
      lia
    · exact q
  refine ⟨c, h1, h2, h3, fun v hv hh hne => ?_, hbal, fun b d hb hd sb sd => ?_⟩
  · obtain ⟨d, a1, a2, _⟩ := o.chain c h1 h2 v (by have := h3 v hv hh; lia) hh
    exact ⟨d, a1, a2⟩
  · by_cases q : b = d
    · exact q
    · obtain ⟨b0, bp⟩ := hbal b hb sb
      obtain ⟨d0, dp⟩ := hbal d hd sd
      have := o.sibs h1 (o.tr.mem_ch.mpr ⟨hb, b0, bp⟩) (o.tr.mem_ch.mpr ⟨hd, d0, dp⟩) q
      lia
/-- a whole mail's parts: the one over a tie, and the rest -/
theorem Ott.root_perm {l h : Nat} (hl : l < n) (hh : h ∈ nbL n p l) : (kidsC n p C l (-1)).Perm (C h (l : Int) :: kidsC n p C l (h : Int)) := by
  unfold kidsC
  rw [o.tr.kids_root]
  exact perm_pick (f := fun (w : Nat) => C w (l : Int)) (o.tr.nb_nodup hl) hh
omit o in
/-- a tie, from its lighter end -/
structure Side (n : Nat) (p : Nat → Nat) (C : Nat → Int → Rows) (l h : Nat) : Prop where
  lt : l < n
  ht : h < n
  nb : h ∈ nbL n p l
  sum : lenI (C l (h : Int)) + lenI (C h (l : Int)) = (n : Int)
  light : 2 * lenI (C l (h : Int)) ≤ (n : Int)
theorem Ott.kid_small {l h : Nat} (s : Side n p C l h) {r : Rows} (hr : r ∈ kidsC n p C l (h : Int)) : 2 * lenI r < (n : Int) := by
  obtain ⟨w, hw, rfl⟩ := List.mem_map.mp hr
  have h1 := o.len l s.lt (h : Int)
  have h2 := sumN_mem (f := fun w => lenI (C w (l : Int))) (l := kidsL n p l (h : Int)) (fun x _ => by unfold lenI; lia) hw
  have := s.light
  lia
theorem Ott.side_eq {l h l' h' : Nat} (s : Side n p C l h) (s' : Side n p C l' h') : C l (-1) = C l' (-1) ↔ C l (h : Int) = C l' (h' : Int) ∧ C h (l : Int) = C h' (l' : Int) := by
  have b1 := s.lt
  have b2 := s'.lt
  have b3 := s.ht
  have b4 := s'.ht
  have c1 := o.can l l' b1 b2 (-1) (-1) (by lia) (by lia) (by lia) (by lia)
  have c2 := o.can l l' b1 b2 (h : Int) (h' : Int) (by lia) (by lia) (by lia) (by lia)
  have p1 := o.root_perm b1 s.nb
  have p2 := o.root_perm b2 s'.nb
  rw [c1, c2]
  constructor
  · rintro ⟨hk, hp⟩
    have hp2 : (C h (l : Int) :: kidsC n p C l (h : Int)).Perm (C h' (l' : Int) :: kidsC n p C l' (h' : Int)) := p1.symm.trans (hp.trans p2)
    have e : C h (l : Int) = C h' (l' : Int) := by
      rcases List.mem_cons.mp (hp2.mem_iff.mp (List.mem_cons_self)) with q | q
      · exact q
      · have h1 := o.kid_small s' q
        have h2 := s.sum
        have h3 := s.light
        lia
    rw [e] at hp2
    exact ⟨⟨hk, List.Perm.cons_inv hp2⟩, e⟩
  · rintro ⟨⟨hk, hp⟩, e⟩
    refine ⟨hk, p1.trans (.trans ?_ p2.symm)⟩
    rw [e]
    exact hp.cons _
end
end Mine
end

section
open PySem PySem.W PySem.Spec PySem.Calls PyProof.Rows
set_option Elab.async false
set_option linter.unusedSectionVars false
set_option maxRecDepth 100000
namespace Mine
/-! counting -/
def ddL {α : Type} [DecidableEq α] (f : Nat → α) : Nat → List α
  | 0 => []
  | k + 1 => if f k ∈ ddL f k then ddL f k else ddL f k ++ [f k]
theorem mem_ddL {α : Type} [DecidableEq α] (f : Nat → α) {x : α} : ∀ {k : Nat}, x ∈ ddL f k ↔ ∃ i, i < k ∧ f i = x
  | 0 => ⟨(fun h => nomatch h), fun ⟨i, h, _⟩ => absurd h (Nat.not_lt_zero _)⟩
  | k + 1 => by
    have ih := mem_ddL f (x := x) (k := k)
    have ih2 := mem_ddL f (x := f k) (k := k)
    unfold ddL
    split
    · rename_i h
      rw [ih]
      constructor
      · rintro ⟨i, a, b⟩; exact ⟨i, by lia, b⟩
      · rintro ⟨i, a, b⟩
        by_cases q : i = k
        · subst q
          obtain ⟨j, c, d⟩ := ih2.mp h
          exact ⟨j, c, d.trans b⟩
        · exact ⟨i, by lia, b⟩
    · rw [List.mem_append, ih, List.mem_singleton]
      constructor
      · rintro (⟨i, a, b⟩ | h)
        · exact ⟨i, by lia, b⟩
        · exact ⟨k, Nat.lt_succ_self _, h.symm⟩
      · rintro ⟨i, a, b⟩
        by_cases q : i = k
        · subst q; exact .inr b.symm
        · exact .inl ⟨i, by lia, b⟩
theorem ddL_nodup {α : Type} [DecidableEq α] (f : Nat → α) : ∀ k : Nat, (ddL f k).Nodup
  | 0 => List.nodup_nil
  | k + 1 => by
    unfold ddL
    split
    · exact ddL_nodup f k
    · rename_i h
      refine List.nodup_append.mpr ⟨ddL_nodup f k, by simp, fun a ha b hb e => ?_⟩
      rw [List.mem_singleton.mp hb] at e
      exact h (e ▸ ha)
theorem ddL_len {α β : Type} [DecidableEq α] [DecidableEq β] (f : Nat → α) (g : Nat → β) : ∀ k : Nat, (∀ i j, i < k → j < k → (f i = f j ↔ g i = g j)) → (ddL f k).length = (ddL g k).length
  | 0, _ => rfl
  | k + 1, h => by
    have ih := ddL_len f g k fun i j hi hj => h i j (by lia) (by lia)
    have hm : f k ∈ ddL f k ↔ g k ∈ ddL g k := by
      rw [mem_ddL, mem_ddL]
      constructor
      · rintro ⟨i, a, b⟩; exact ⟨i, a, (h i k (by lia) (by lia)).mp b⟩
      · rintro ⟨i, a, b⟩; exact ⟨i, a, (h i k (by lia) (by lia)).mpr b⟩
    unfold ddL
    by_cases q : f k ∈ ddL f k
    · rw [if_pos q, if_pos (hm.mp q), ih]
    · rw [if_neg q, if_neg (fun r => q (hm.mpr r)), List.length_append, List.length_append, ih]; rfl
theorem same_len {α : Type} [DecidableEq α] {l m : List α} (hl : l.Nodup) (hm : m.Nodup) (h : ∀ x, x ∈ l ↔ x ∈ m) : l.length = m.length := ((List.perm_ext_iff_of_nodup hl hm).mpr h).length_eq
def twL (P : Nat → Prop) [DecidablePred P] : Nat → Nat
  | 0 => 0
  | i + 1 => if P i then twL P i + 1 else twL P i
theorem twL_zero (P : Nat → Prop) [DecidablePred P] : ∀ k, (∀ i, i < k → ¬ P i) → twL P k = 0
  | 0, _ => rfl
  | k + 1, h => by
    rw [twL, if_neg (h k (Nat.lt_succ_self _)), twL_zero P k fun i hi => h i (by lia)]
theorem twL_one (P : Nat → Prop) [DecidablePred P] {i : Nat} : ∀ k, i < k → P i → (∀ j, j < k → P j → j = i) → twL P k = 1
  | 0, h, _, _ => absurd h (Nat.not_lt_zero _)
  | k + 1, h, hp, hu => by
    rw [twL]
    by_cases q : i = k
    · subst q
      rw [if_pos hp, twL_zero P i fun j hj hj2 => by
        have := hu j (by lia) hj2; lia]
    · rw [if_neg (fun r => q (hu k (Nat.lt_succ_self _) r).symm), twL_one P k (by lia) hp fun j hj => hu j (by lia)]
theorem pairN_eq {a b c d : Int} : pairN a b = pairN c d ↔ (a = c ∧ b = d) ∨ (a = d ∧ b = c) := by
  unfold pairN
  split <;> split <;> simp only [List.cons.injEq, and_true] <;> lia
section
variable {n : Nat} {p : Nat → Nat} {C : Nat → Int → Rows} {kk : Nat → Int} {S : Nat → Int} (o : Ott n p C kk S)
include o
theorem Ott.side {c : Nat} (hc : c < n) (h0 : c ≠ 0) : ∃ l h, Side n p C l h ∧ (l = c ∧ h = p c ∧ 2 * S c ≤ (n : Int) ∨ l = p c ∧ h = c ∧ (n : Int) < 2 * S c) := by
  obtain ⟨h1, h2, h3⟩ := o.tr.par_nb hc h0
  obtain ⟨e1, e2⟩ := o.par c hc h0
  by_cases q : 2 * S c ≤ (n : Int)
  · exact ⟨c, p c, ⟨hc, h3, h1, by lia, by lia⟩, .inl ⟨rfl, rfl, q⟩⟩
  · exact ⟨p c, c, ⟨h3, hc, h2, by lia, by lia⟩, .inr ⟨rfl, rfl, by lia⟩⟩
theorem Ott.otter {num : Rows → Int} (hinj : ∀ v v', v < n → v' < n → ∀ u u' : Int, num (C v u) = num (C v' u') → C v u = C v' u') :
    ((ddL (fun v => num (C v (-1))) n).length : Int) - ((ddL (fun i => pairN (num (C (i + 1) ((p (i + 1) : Nat) : Int))) (num (C (p (i + 1)) ((i + 1 : Nat) : Int)))) (n - 1)).length : Int) +
      (twL (fun i => num (C (i + 1) ((p (i + 1) : Nat) : Int)) = num (C (p (i + 1)) ((i + 1 : Nat) : Int))) (n - 1) : Int) = 1 := by
  obtain ⟨ct, c1, c2, c3, c4, c5, c6⟩ := o.centre
  have hpos := o.tr.pos
  let tau : Nat → Nat := fun c => if 2 * S c ≤ (n : Int) then c else p c
  let R : Nat → Int := fun v => num (C v (-1))
  have hR : ∀ v w, v < n → w < n → (R v = R w ↔ C v (-1) = C w (-1)) := fun v w hv hw => ⟨hinj v w hv hw _ _, fun h => by show num _ = num _; rw [h]⟩
  have htau : ∀ c, c < n → c ≠ 0 → tau c < n ∧ ∃ h, Side n p C (tau c) h ∧ (tau c = c ∧ h = p c ∧ 2 * S c ≤ (n : Int) ∨ tau c = p c ∧ h = c ∧ (n : Int) < 2 * S c) := fun c hc h0 => by
    obtain ⟨l, h, s, e⟩ := o.side hc h0
    have hl : tau c = l := by
      rcases e with ⟨e1, e2, e3⟩ | ⟨e1, e2, e3⟩
      · show (if 2 * S c ≤ (n : Int) then c else p c) = l
        rw [if_pos e3, e1]
      · show (if 2 * S c ≤ (n : Int) then c else p c) = l
        rw [if_neg (by lia), e1]
    rw [hl]
    exact ⟨s.lt, h, s, e⟩
  -- ties and their lighter ends tell the same
  have hsame : ∀ i j, i < n - 1 → j < n - 1 → (R (tau (i + 1)) = R (tau (j + 1)) ↔ pairN (num (C (i + 1) ((p (i + 1) : Nat) : Int))) (num (C (p (i + 1)) ((i + 1 : Nat) : Int))) = pairN (num (C (j + 1) ((p (j + 1) : Nat) : Int))) (num (C (p (j + 1)) ((j + 1 : Nat) : Int)))) := fun i j hi hj => by
    have hi1 : i + 1 < n := by lia
    have hj1 : j + 1 < n := by lia
    obtain ⟨t1, h, s, e⟩ := htau (i + 1) hi1 (by lia)
    obtain ⟨t2, h', s', e'⟩ := htau (j + 1) hj1 (by lia)
    have par1 := (o.tr.par_nb hi1 (by lia)).2.2
    have par2 := (o.tr.par_nb hj1 (by lia)).2.2
    have ni : ∀ v v' (u u' : Int), v < n → v' < n → (num (C v u) = num (C v' u') ↔ C v u = C v' u') := fun v v' u u' hv hv' => ⟨hinj v v' hv hv' u u', fun h => by rw [h]⟩
    rw [hR _ _ t1 t2, o.side_eq s s', pairN_eq, ni _ _ _ _ hi1 hj1, ni _ _ _ _ par1 par2, ni _ _ _ _ hi1 par2, ni _ _ _ _ par1 hj1]
    -- the crossed case: both are balanced
    have cross : C (tau (i + 1)) (h : Int) = C h' (tau (j + 1) : Int) → C h (tau (i + 1) : Int) = C (tau (j + 1)) (h' : Int) → i = j := fun q1 q2 => by
      have a1 := s.sum
      have a2 := s.light
      have a3 := s'.sum
      have a4 := s'.light
      rw [q1, q2] at a1
      rw [q1] at a2
      have f1 := o.par (i + 1) hi1 (by lia)
      have f2 := o.par (j + 1) hj1 (by lia)
      have g1 : 2 * S (i + 1) = (n : Int) := by
        rcases e with ⟨e1, e2, e3⟩ | ⟨e1, e2, e3⟩
        · rw [e1, e2] at q1
          rw [q1] at f1
          lia
        · rw [e1, e2] at q1
          rw [q1] at f1
          lia
      have g2 : 2 * S (j + 1) = (n : Int) := by
        rcases e' with ⟨e1, e2, e3⟩ | ⟨e1, e2, e3⟩
        · rw [e1, e2] at a2 a3 a4
          lia
        · rw [e1, e2] at a2 a3 a4
          lia
      have := c6 _ _ hi1 hj1 g1 g2
      lia
    have self : i = j → C (tau (i + 1)) (h : Int) = C (tau (j + 1)) (h' : Int) ∧ C h (tau (i + 1) : Int) = C h' (tau (j + 1) : Int) := fun q => by
      subst q
      have hh : h = h' := by
        rcases e with ⟨e1, e2, e3⟩ | ⟨e1, e2, e3⟩ <;> rcases e' with ⟨e4, e5, e6⟩ | ⟨e4, e5, e6⟩ <;> lia
      subst hh
      exact ⟨rfl, rfl⟩
    rcases e with ⟨e1, e2, e3⟩ | ⟨e1, e2, e3⟩ <;> rcases e' with ⟨e4, e5, e6⟩ | ⟨e4, e5, e6⟩ <;> rw [e1, e2, e4, e5] at cross self ⊢ <;> constructor <;> intro q
    · exact .inl q
    · rcases q with q | q
      · exact q
      · exact self (cross q.1 q.2)
    · exact .inr ⟨q.1, q.2⟩
    · rcases q with q | q
      · exact self (cross q.1 q.2)
      · exact ⟨q.1, q.2⟩
    · exact .inr ⟨q.2, q.1⟩
    · rcases q with q | q
      · exact self (cross q.2 q.1)
      · exact ⟨q.2, q.1⟩
    · exact .inl ⟨q.2, q.1⟩
    · rcases q with q | q
      · exact ⟨q.2, q.1⟩
      · exact self (cross q.2 q.1)
  have hlen := ddL_len (fun i => R (tau (i + 1))) (fun i => pairN (num (C (i + 1) ((p (i + 1) : Nat) : Int))) (num (C (p (i + 1)) ((i + 1 : Nat) : Int)))) (n - 1) hsame
  rw [← hlen]
  -- every place but the centre is a lighter end
  have hsur : ∀ v, v < n → v ≠ ct → ∃ i, i < n - 1 ∧ tau (i + 1) = v := fun v hv hne => by
    by_cases q : 2 * S v ≤ (n : Int)
    · have h0 : v ≠ 0 := fun e => by rw [e, o.root] at q; lia
      refine ⟨v - 1, by lia, ?_⟩
      rw [show v - 1 + 1 = v by lia]
      exact if_pos q
    · obtain ⟨d, d1, d2⟩ := c4 v hv (by lia) hne
      obtain ⟨d3, d4, d5⟩ := o.tr.mem_ch.mp d1
      refine ⟨d - 1, by lia, ?_⟩
      rw [show d - 1 + 1 = d by lia]
      show (if 2 * S d ≤ (n : Int) then d else p d) = v
      rw [if_neg (by lia), d5]
  -- the balanced tie
  have hbal : ∀ i, i < n - 1 → C (i + 1) ((p (i + 1) : Nat) : Int) = C (p (i + 1)) ((i + 1 : Nat) : Int) → 2 * S (i + 1) = (n : Int) := fun i hi q => by
    have f := o.par (i + 1) (by lia) (by lia)
    rw [q] at f
    lia
  have htw : ∀ i, i < n - 1 → (num (C (i + 1) ((p (i + 1) : Nat) : Int)) = num (C (p (i + 1)) ((i + 1 : Nat) : Int)) ↔ C (i + 1) ((p (i + 1) : Nat) : Int) = C (p (i + 1)) ((i + 1 : Nat) : Int)) := fun i hi =>
    ⟨hinj _ _ (by lia) (o.tr.par_nb (show i + 1 < n by lia) (by lia)).2.2 _ _, fun h => by rw [h]⟩
  have hct : R ct ∈ ddL (fun i => R (tau (i + 1))) (n - 1) ↔ ∃ i, i < n - 1 ∧ C (i + 1) ((p (i + 1) : Nat) : Int) = C (p (i + 1)) ((i + 1 : Nat) : Int) := by
    rw [mem_ddL]
    constructor
    · rintro ⟨i, hi, q⟩
      have hi1 : i + 1 < n := by lia
      obtain ⟨t1, h, s, e⟩ := htau (i + 1) hi1 (by lia)
      have q1 := (hR _ _ t1 c1).mp q
      have q2 := (o.can _ _ t1 c1 (-1) (-1) (by lia) (by lia) (by lia) (by lia)).mp q1
      have q3 : C h (tau (i + 1) : Int) ∈ kidsC n p C ct (-1) := q2.2.mem_iff.mp ((o.root_perm t1 s.nb).mem_iff.mpr List.mem_cons_self)
      obtain ⟨w, hw, e5⟩ := List.mem_map.mp q3
      rw [o.tr.kids_root] at hw
      have a1 := s.sum
      have a2 := s.light
      rw [← e5] at a1
      rcases (o.tr.mem_nb c1).mp hw with ⟨h0, rfl⟩ | ⟨w1, w2, w3⟩
      · exfalso
        have f := (o.par ct c1 h0).2
        lia
      · have f := (o.par w w1 w2).1
        rw [w3] at f
        have w4 : ¬ (n : Int) < 2 * S w := fun r => by
          have := c3 w w1 r
          have := o.tr.lt w w2
          lia
        have w5 : 2 * S w = (n : Int) := by lia
        have f2 := o.par (i + 1) hi1 (by lia)
        have w6 : 2 * S (i + 1) = (n : Int) := by
          rcases e with ⟨e1, e2, e3⟩ | ⟨e1, e2, e3⟩
          · rw [e1, e2] at a1 a2
            lia
          · rw [e1, e2] at a1 a2
            lia
        have w7 := c6 _ _ w1 hi1 w5 w6
        rcases e with ⟨e1, e2, e3⟩ | ⟨e1, e2, e3⟩
        · refine ⟨i, hi, ?_⟩
          rw [e1, e2] at e5
          rw [← e5, w7, ← (c5 (i + 1) hi1 w6).2]
        · lia
    · rintro ⟨i, hi, q⟩
      have hi1 : i + 1 < n := by lia
      have w6 := hbal i hi q
      obtain ⟨w8, w9⟩ := c5 (i + 1) hi1 w6
      refine ⟨i, hi, ?_⟩
      have e1 : tau (i + 1) = i + 1 := if_pos (by lia)
      show R (tau (i + 1)) = R ct
      rw [e1, hR _ _ hi1 c1]
      obtain ⟨b1, b2, b3⟩ := o.tr.par_nb hi1 w8
      rw [w9] at b1 b2 q
      have q1 := (o.can _ _ hi1 c1 ((ct : Nat) : Int) ((i + 1 : Nat) : Int) (by lia) (by lia) (by lia) (by lia)).mp q
      refine (o.can _ _ hi1 c1 (-1) (-1) (by lia) (by lia) (by lia) (by lia)).mpr ⟨q1.1, ?_⟩
      refine (o.root_perm hi1 b1).trans (.trans ?_ (o.root_perm c1 b2).symm)
      rw [q]
      exact q1.2.cons _
  have hmem : ∀ x, x ∈ ddL R n ↔ x ∈ ddL (fun i => R (tau (i + 1))) (n - 1) ∨ x = R ct := fun x => by
    rw [mem_ddL, mem_ddL]
    constructor
    · rintro ⟨v, hv, rfl⟩
      by_cases q : v = ct
      · exact .inr (by rw [q])
      · obtain ⟨i, hi, e⟩ := hsur v hv q
        exact .inl ⟨i, hi, by show R (tau (i + 1)) = R v; rw [e]⟩
    · rintro (⟨i, hi, rfl⟩ | rfl)
      · exact ⟨tau (i + 1), (htau (i + 1) (by lia) (by lia)).1, rfl⟩
      · exact ⟨ct, c1, rfl⟩
  by_cases q : R ct ∈ ddL (fun i => R (tau (i + 1))) (n - 1)
  · have hl : (ddL R n).length = (ddL (fun i => R (tau (i + 1))) (n - 1)).length := same_len (ddL_nodup _ _) (ddL_nodup _ _) fun x => by
      rw [hmem]
      exact ⟨fun h => h.elim id fun e => e ▸ q, .inl⟩
    obtain ⟨i, hi, hq⟩ := hct.mp q
    have h1 := twL_one (fun i => num (C (i + 1) ((p (i + 1) : Nat) : Int)) = num (C (p (i + 1)) ((i + 1 : Nat) : Int))) (i := i) (n - 1) hi ((htw i hi).mpr hq) fun j hj hj2 => by
      have := c6 _ _ (by lia) (by lia) (hbal j hj ((htw j hj).mp hj2)) (hbal i hi hq)
      lia
    rw [h1]
    show ((ddL R n).length : Int) - _ + _ = 1
    rw [hl]
    lia
  · have hl : (ddL R n).length = (ddL (fun i => R (tau (i + 1))) (n - 1) ++ [R ct]).length := same_len (ddL_nodup _ _) (List.nodup_append.mpr ⟨ddL_nodup _ _, by simp, fun a ha b hb e => by
        rw [List.mem_singleton.mp hb] at e
        exact q (e ▸ ha)⟩) fun x => by
      rw [hmem, List.mem_append, List.mem_singleton]
    have h0 := twL_zero (fun i => num (C (i + 1) ((p (i + 1) : Nat) : Int)) = num (C (p (i + 1)) ((i + 1 : Nat) : Int))) (n - 1) fun i hi r => q (hct.mpr ⟨i, hi, (htw i hi).mp r⟩)
    rw [h0]
    show ((ddL R n).length : Int) - _ + _ = 1
    rw [hl, List.length_append, List.length_singleton]
    lia
end
end Mine
end

section
open PySem PySem.W PySem.Spec PySem.Calls PyProof.Rows
set_option Elab.async false
set_option linter.unusedSectionVars false
set_option maxRecDepth 100000
namespace Mine
/-! what the strip leaves, and what the counts find -/
theorem run_plain {X : List Nat} : ∀ (s : List Nat) (i start : Nat) (op : Option Nat) (res : List (List Nat)) (rest : List Nat), (∀ c ∈ s, c ≠ 34 ∧ c ≠ 92) → stripE X (runE i false (s ++ rest)) start op res = stripE X (runE (i + s.length) false rest) start op res
  | [], _, _, _, _, _, _ => rfl
  | c :: s, i, start, op, res, rest, h => by
    have hc := h c (.head _)
    rw [List.cons_append, runE, if_neg hc.2, stripE_n (fun e => hc.1 (by simpa using e)), run_plain s (i + 1) start op res rest fun x hx => h x (.tail _ hx), List.length_cons, Nat.add_right_comm, Nat.add_assoc]
theorem take_more {X s rest : List Nat} {start i : Nat} (hs : start ≤ i) (h : X.drop i = s ++ rest) : (X.drop start).take (i + s.length - start) = (X.drop start).take (i - start) ++ s := by
  rw [show i + s.length - start = (i - start) + s.length by lia, List.take_add, List.drop_drop, show start + (i - start) = i by lia, h, List.take_left]
theorem bare_cons (p : Nat × Nat) (r : Rows) : bareR (p :: r) = (p.1, 0) :: bareR r := rfl
theorem strip_rows {a b c : Nat} (X : List Nat) : ∀ (r : Rows) (i start : Nat) (res : List (List Nat)), ValidR r → start ≤ i → i ≤ X.length → X.drop i = mailL (sgOf a b c) r →
    (stripE X (runE i false (mailL (sgOf a b c) r)) start none res).flatten = res.flatten ++ (X.drop start).take (i - start) ++ mailL (sgOf a b c) (bareR r)
  | [], i, start, res, _, hs, hi, hX => by
    have h0 : mailL (sgOf a b c) [] = [] := rfl
    rw [h0] at hX
    have hil : i = X.length := by
      have := congrArg List.length hX
      rw [List.length_drop] at this
      simp at this
      lia
    rw [h0, runE, show bareR ([] : Rows) = [] from rfl, h0, List.append_nil]
    show (stripE X [] start none res).flatten = _
    rw [show stripE X [] start none res = if start < X.length then res ++ [X.drop start] else res from rfl]
    by_cases q : start < X.length
    · rw [if_pos q, List.flatten_append, hil]
      congr 1
      rw [List.flatten_cons, List.flatten_nil, List.append_nil, List.take_of_length_le (by rw [List.length_drop]; exact Nat.le_refl _)]
    · rw [if_neg q, List.drop_eq_nil_of_le (by lia), List.take_nil, List.append_nil]
  | (d, k) :: r, i, start, res, hv, hs, hi, hX => by
    have hk : k < 4 := hv (d, k) (.head _)
    have hv' : ValidR r := fun x hx => hv x (.tail _ hx)
    have hXl := congrArg List.length hX
    rw [List.length_drop] at hXl
    rw [mailL_cons] at hX hXl ⊢
    rw [bare_cons, mailL_cons]
    unfold rowOf at hX hXl ⊢
    dsimp only at hX hXl ⊢
    rw [sg_at hk] at hX hXl ⊢
    rw [sg_at (show 0 < 4 by decide), show nmL a b c 0 = [] from rfl, List.append_nil]
    unfold nmL at hX hXl ⊢
    by_cases h0 : k = 0
    · rw [if_pos h0, List.append_nil] at hX hXl ⊢
      have e : List.replicate d 46 ++ 13 :: 10 :: mailL (sgOf a b c) r = (List.replicate d 46 ++ [13, 10]) ++ mailL (sgOf a b c) r := by simp
      rw [e] at hX hXl ⊢
      have hlen : (List.replicate d 46 ++ [13, 10]).length = d + 2 := by simp
      rw [List.length_append, hlen] at hXl
      rw [run_plain (List.replicate d 46 ++ [13, 10]) i start none res _ (fun x hx => by
        rcases List.mem_append.mp hx with hx | hx
        · rw [List.eq_of_mem_replicate hx]; decide
        · simp only [List.mem_cons, List.not_mem_nil, or_false] at hx
          rcases hx with rfl | rfl <;> decide)]
      have ih := strip_rows (a := a) (b := b) (c := c) X r (i + (List.replicate d 46 ++ [13, 10]).length) start res hv' (by lia) (by rw [hlen]; lia) (by rw [← List.drop_drop, hX, List.drop_left])
      rw [ih, take_more hs hX]
      simp
    · rw [if_neg h0] at hX hXl ⊢
      generalize hq : (if k = 1 then a else if k = 2 then b else c) = q at hX hXl ⊢
      have e : (List.replicate d 46 ++ [34, 92, q, 34]) ++ 13 :: 10 :: mailL (sgOf a b c) r = List.replicate d 46 ++ (34 :: 92 :: q :: 34 :: ([13, 10] ++ mailL (sgOf a b c) r)) := by simp
      rw [e] at hX hXl ⊢
      rw [List.length_append, List.length_replicate] at hXl
      simp only [List.length_cons, List.length_append, List.length_nil] at hXl
      rw [run_plain (List.replicate d 46) i start none res _ (fun x hx => by rw [List.eq_of_mem_replicate hx]; decide), List.length_replicate]
      rw [runE, if_neg (by decide), stripE_q, runE, if_pos rfl, runE, stripE_n (by simp), runE, if_neg (by decide), stripE_o, run_plain [13, 10] _ _ none _ _ (fun x hx => by
        simp only [List.mem_cons, List.not_mem_nil, or_false] at hx
        rcases hx with rfl | rfl <;> decide)]
      have hX2 : X.drop (i + d + 1 + 1 + 1 + 1) = [13, 10] ++ mailL (sgOf a b c) r := by
        have h3 : X.drop (i + d + 4) = ((X.drop i).drop d).drop 4 := by rw [List.drop_drop, List.drop_drop, Nat.add_assoc]
        show X.drop (i + d + 4) = _
        rw [h3, hX, List.drop_left' (by simp)]
        rfl
      have hpos : i + d + 1 + 1 + 1 + [13, 10].length = i + d + 1 + 1 + 1 + 1 + [13, 10].length - 1 := by simp
      have hX1 : X.drop i = List.replicate d 46 ++ (34 :: 92 :: q :: 34 :: ([13, 10] ++ mailL (sgOf a b c) r)) := hX
      have htm := take_more (start := start) hs hX1
      rw [List.length_replicate] at htm
      have ih := strip_rows (a := a) (b := b) (c := c) X r (i + d + 1 + 1 + 1 + 1 + [13, 10].length) (i + d + 1 + 1 + 1 + 1) (if start ≠ i + d then res ++ [(X.drop start).take (i + d - start)] else res) hv' (by lia) (by simp only [List.length_cons, List.length_nil]; lia) (by rw [← List.drop_drop, hX2, List.drop_left])
      rw [ih]
      have htk : (X.drop (i + d + 1 + 1 + 1 + 1)).take (i + d + 1 + 1 + 1 + 1 + [13, 10].length - (i + d + 1 + 1 + 1 + 1)) = [13, 10] := by
        rw [hX2, Nat.add_sub_cancel_left, List.take_left]
      rw [htk]
      have hres : (if start ≠ i + d then res ++ [(X.drop start).take (i + d - start)] else res).flatten = res.flatten ++ (X.drop start).take (i - start) ++ List.replicate d 46 := by
        by_cases hsd : start = i + d
        · rw [if_neg (fun z => z hsd)]
          have hd : d = 0 := by lia
          subst hd
          rw [show i - start = 0 by lia]
          simp
        · rw [if_pos hsd, List.flatten_append, htm]
          simp
      rw [hres]
      simp
theorem no34 {a b c : Nat} : ∀ {r : Rows}, ValidR r → 34 ∉ mailL (sgOf a b c) r → bareR r = r
  | [], _, _ => rfl
  | (d, k) :: r, hv, h => by
    rw [mailL_cons] at h
    have hk : k < 4 := hv (d, k) (.head _)
    have h1 : 34 ∉ rowOf (sgOf a b c) (d, k) := fun q => h (List.mem_append_left _ q)
    have h2 : 34 ∉ mailL (sgOf a b c) r := fun q => h (List.mem_append_right _ (.tail _ (.tail _ q)))
    have hk0 : k = 0 := by
      by_cases q : k = 0
      · exact q
      · exfalso
        unfold rowOf at h1
        dsimp only at h1
        rw [sg_at hk] at h1
        unfold nmL at h1
        rw [if_neg q] at h1
        exact h1 (List.mem_append_right _ (.head _))
    subst hk0
    rw [bare_cons, no34 (fun x hx => hv x (.tail _ hx)) h2]
theorem end_plain : ∀ (s rest : List Nat), (∀ c ∈ s, c ≠ 92) → endE false (s ++ rest) = endE false rest
  | [], _, _ => rfl
  | c :: s, rest, h => by
    rw [List.cons_append, endE, beq_false_of_ne (h c (.head _)), end_plain s rest fun x hx => h x (.tail _ hx)]
theorem end_rows {a b c : Nat} : ∀ {r : Rows}, ValidR r → endE false (mailL (sgOf a b c) r) = false
  | [], _ => rfl
  | (d, k) :: r, hv => by
    have hk : k < 4 := hv (d, k) (.head _)
    have ih := end_rows (a := a) (b := b) (c := c) (r := r) fun x hx => hv x (.tail _ hx)
    rw [mailL_cons]
    unfold rowOf
    dsimp only
    rw [sg_at hk, List.append_assoc, end_plain _ _ (fun x hx => by rw [List.eq_of_mem_replicate hx]; decide)]
    have h2 : endE false (13 :: 10 :: mailL (sgOf a b c) r) = false := by
      rw [endE, show ((13 : Nat) == 92) = false from rfl, endE, show ((10 : Nat) == 92) = false from rfl, ih]
    unfold nmL
    split
    · exact h2
    · generalize (if k = 1 then a else if k = 2 then b else c) = q
      show endE false (34 :: 92 :: q :: 34 :: 13 :: 10 :: mailL (sgOf a b c) r) = false
      rw [endE, show ((34 : Nat) == 92) = false from rfl, endE, show ((92 : Nat) == 92) = true from rfl, endE, endE, show ((34 : Nat) == 92) = false from rfl, h2]
theorem ascii_rows {a b c : Nat} (R : Rise a b c) : ∀ {r : Rows}, ValidR r → ∀ x ∈ mailL (sgOf a b c) r, x < 128
  | [], _, x, hx => by
    have hx' : x ∈ ([] : List Nat) := hx
    cases hx'
  | (d, k) :: r, hv, x, hx => by
    have hk : k < 4 := hv (d, k) (.head _)
    have ih := ascii_rows R (r := r) fun x hx => hv x (.tail _ hx)
    obtain ⟨r1, r2, r3, r4⟩ := R
    rw [mailL_cons] at hx
    rcases List.mem_append.mp hx with hx | hx
    · unfold rowOf at hx
      dsimp only at hx
      rw [sg_at hk] at hx
      rcases List.mem_append.mp hx with hx | hx
      · rw [List.eq_of_mem_replicate hx]; decide
      · unfold nmL at hx
        split at hx
        · cases hx
        · simp only [List.mem_cons, List.not_mem_nil, or_false] at hx
          rcases hx with rfl | rfl | rfl | rfl
          · decide
          · decide
          · split
            · lia
            · split <;> lia
          · decide
    · rcases List.mem_cons.mp hx with rfl | hx
      · decide
      rcases List.mem_cons.mp hx with rfl | hx
      · decide
      exact ih x hx
theorem sg_signs {a b c : Nat} (R : Rise a b c) : Signs' (sgOf a b c) := by
  obtain ⟨r1, r2, r3, r4⟩ := R
  have hS : ∀ x : Nat, (signS x).cps.toList = [34, 92, x, 34] := fun _ => rfl
  have hne : ∀ x y : Nat, x ≠ y → signS x ≠ signS y := fun x y h e => by
    have := congrArg (fun s : Str => s.cps.toList) e
    simp only [hS, List.cons.injEq, and_true, true_and] at this
    exact h this
  have he : ∀ x : Nat, Str.empty ≠ signS x := fun x e => by
    have := congrArg (fun s : Str => s.cps.toList) e
    rw [hS] at this
    cases this
  have hcase : ∀ {P : Str → Prop}, P Str.empty → P (signS a) → P (signS b) → P (signS c) → ∀ x ∈ sgOf a b c, P x := fun h1 h2 h3 h4 x hx => by
    simp only [sgOf, List.mem_cons, List.not_mem_nil, or_false] at hx
    rcases hx with rfl | rfl | rfl | rfl <;> assumption
  refine { len := rfl, nodup := ?_, no13 := ?_, head := ?_, short := ?_, no10 := ?_ }
  · simp only [sgOf, List.nodup_cons, List.mem_cons, List.not_mem_nil, or_false, not_or, not_false_eq_true, List.nodup_nil, and_true]
    exact ⟨⟨he a, he b, he c⟩, ⟨hne a b (by lia), hne a c (by lia)⟩, hne b c (by lia)⟩
  · refine hcase ?_ ?_ ?_ ?_
    · exact fun h => by cases h
    all_goals (rw [hS]; simp; lia)
  · refine hcase ?_ ?_ ?_ ?_ <;> exact fun h => by cases h
  · refine hcase ?_ ?_ ?_ ?_
    · decide
    all_goals exact Nat.le_refl 4
  · refine hcase ?_ ?_ ?_ ?_
    · exact fun h => by cases h
    all_goals (rw [hS]; simp; lia)
theorem strip_ok {a b c : Nat} (R : Rise a b c) {r : Rows} (hr : RowsOk r) : StripOk (textR (sgOf a b c) r) (textR (sgOf a b c) (bareR r)) := by
  have hv : ValidR r := fun p hp => (hr.row p hp).1
  have e : (textR (sgOf a b c) r).cps.toList = mailL (sgOf a b c) r := by simp [textR, strL]
  have hl := mail_len (sg_signs R) hr.row hr.len
  refine ⟨?_, ?_, by rw [e]; exact end_rows hv, ?_⟩
  · rw [← Array.all_toList, e, List.all_eq_true]
    intro x hx
    exact decide_eq_true (ascii_rows R hv x hx)
  · have : (textR (sgOf a b c) r).cps.size = (mailL (sgOf a b c) r).length := by rw [← e, Array.length_toList]
    lia
  · unfold stripT
    rw [e]
    by_cases h : 34 ∈ mailL (sgOf a b c) r
    · rw [if_pos h]
      have := strip_rows (a := a) (b := b) (c := c) (mailL (sgOf a b c) r) r 0 0 [] hv (Nat.le_refl _) (Nat.zero_le _) rfl
      rw [this]
      rfl
    · rw [if_neg h, no34 hv h]
theorem feed_cnt {a b c : Nat} : ∀ (r : Rows), feedC (sgOf a b c) r = lenI r ∧ dotC (sgOf a b c) r = dotI r := by
  have key : ∀ r : Rows, cnt 10 (mailL (sgOf a b c) (bareR r)) = lenI r ∧ cnt 46 (mailL (sgOf a b c) (bareR r)) = dotI r := by
    intro r
    induction r with
    | nil => exact ⟨rfl, rfl⟩
    | cons p r ih =>
      rw [bare_cons, mailL_cons]
      unfold rowOf
      dsimp only
      rw [sg_at (show 0 < 4 by decide), show nmL a b c 0 = [] from rfl, List.append_nil]
      have h46 : ∀ d : Nat, cnt 46 (List.replicate d 46) = ((d : Nat) : Int) := fun d => by
        induction d with
        | zero => rfl
        | succ d ih => rw [List.replicate_succ, cnt_cons, ih, if_pos rfl]; lia
      have h10 : ∀ d : Nat, cnt 10 (List.replicate d 46) = 0 := fun d => cnt_none _ _ fun h => by
        have := List.eq_of_mem_replicate h; lia
      constructor
      · rw [cnt_append, cnt_cons, cnt_cons, ih.1, h10]
        unfold lenI
        rw [List.length_cons]
        simp
        lia
      · rw [cnt_append, cnt_cons, cnt_cons, ih.2, h46]
        show _ = (((p.1 : Nat) : Int) + dotI r)
        simp
  intro r
  have e : (textR (sgOf a b c) (bareR r)).cps.toList = mailL (sgOf a b c) (bareR r) := by simp [textR, strL]
  unfold feedC dotC
  rw [show Str.ofString "\n" = (⟨#[10]⟩ : Str) by decide +kernel, show Str.ofString "." = (⟨#[46]⟩ : Str) by decide +kernel, count_cnt, count_cnt, e]
  exact key r
end Mine
end

section
open PySem PySem.W PySem.Spec PySem.Calls PyProof.Rows
set_option Elab.async false
set_option linter.unusedSectionVars false
set_option maxRecDepth 100000
namespace Mine
/-! the plain law, put together -/
theorem sumN_filter_le {f : Nat → Int} (q : Nat → Bool) : ∀ {l : List Nat}, (∀ x ∈ l, 0 ≤ f x) → sumN f (l.filter q) ≤ sumN f l
  | [], _ => Int.le_refl _
  | a :: l, h => by
    have h1 := h a (.head _)
    have h2 := sumN_filter_le (f := f) q (l := l) fun x hx => h x (.tail _ hx)
    rw [List.filter_cons, sumN_cons]
    split
    · rw [sumN_cons]; lia
    · lia
section
variable {n : Nat} {p : Nat → Nat} (t : Tr n p) {kd : Nat → Nat} {a b c : Nat} (R : Rise a b c) (hkd : ∀ v, v < n → kd v < 4)
include t
theorem Tr.len_le (kd : Nat → Nat) (sg : List Str) {v : Nat} (hv : v < n) (u : Int) : lenI (MM n p kd sg v u) ≤ (n : Int) := by
  rw [← t.ln_root kd sg v hv, t.ln_eq kd sg hv u, t.ln_eq kd sg hv (-1), t.kids_root]
  have := sumN_filter_le (f := fun w => lenI (MM n p kd sg w (v : Int))) (fun (w : Nat) => decide ((w : Int) ≠ u)) (l := nbL n p v) fun x _ => by unfold lenI; lia
  unfold kidsL
  lia
include hkd
theorem Tr.good {v : Nat} (hv : v < n) (u : Int) : TreeR (MM n p kd (sgOf a b c) v u) ∧ ∀ q ∈ MM n p kd (sgOf a b c) v u, q.2 < 4 ∧ 2 ≤ q.1 ∧ ((q.1 : Nat) : Int) ≤ lenI (MM n p kd (sgOf a b c) v u) + 1 := by
  refine t.induct (P := fun v u => TreeR (MM n p kd (sgOf a b c) v u) ∧ ∀ q ∈ MM n p kd (sgOf a b c) v u, q.2 < 4 ∧ 2 ≤ q.1 ∧ ((q.1 : Nat) : Int) ≤ lenI (MM n p kd (sgOf a b c) v u) + 1) (fun v u hv ih => ?_) hv u
  have hps : ∀ r ∈ sortR (sgOf a b c) ((kidsL n p v u).map fun (w : Nat) => MM n p kd (sgOf a b c) w (v : Int)), ∃ w, w ∈ kidsL n p v u ∧ r = MM n p kd (sgOf a b c) w (v : Int) := fun r hr => by
    obtain ⟨w, hw, e⟩ := List.mem_map.mp (mem_sortR hr)
    exact ⟨w, hw, e.symm⟩
  have hlen := t.ln_eq kd (sgOf a b c) hv u
  rw [t.MM_eq kd (sgOf a b c) hv u] at hlen ⊢
  refine ⟨node_tree fun r hr => ?_, fun q hq => ?_⟩
  · obtain ⟨w, hw, rfl⟩ := hps r hr
    exact (ih w hw).1
  · rcases List.mem_cons.mp hq with rfl | hq
    · refine ⟨hkd v hv, Nat.le_refl _, ?_⟩
      rw [hlen]
      have := sumN_nonneg (f := fun w => lenI (MM n p kd (sgOf a b c) w (v : Int))) (l := kidsL n p v u) fun x _ => by unfold lenI; lia
      show ((2 : Nat) : Int) ≤ _
      lia
    · obtain ⟨q', hq', rfl⟩ := List.mem_map.mp hq
      obtain ⟨r, hr, hqr⟩ := List.mem_flatten.mp hq'
      obtain ⟨w, hw, rfl⟩ := hps r hr
      obtain ⟨h1, h2, h3⟩ := (ih w hw).2 q' hqr
      refine ⟨h1, by show 2 ≤ q'.1 + 1; lia, ?_⟩
      rw [hlen]
      have := sumN_mem (f := fun w => lenI (MM n p kd (sgOf a b c) w (v : Int))) (l := kidsL n p v u) (fun x _ => by unfold lenI; lia) hw
      show ((q'.1 + 1 : Nat) : Int) ≤ _
      lia
theorem Tr.rowsOk {v : Nat} (hv : v < n) (u : Int) : RowsOk (MM n p kd (sgOf a b c) v u) := by
  obtain ⟨⟨k, tl, e, _⟩, h⟩ := t.good hkd (a := a) (b := b) (c := c) hv u
  have hl := t.len_le kd (sgOf a b c) hv u
  have h8 := t.n8
  refine ⟨fun q hq => ?_, ?_, fun e2 => by rw [e2] at e; cases e⟩
  · obtain ⟨h1, h2, h3⟩ := h q hq
    refine ⟨h1, by lia, by lia⟩
  · unfold lenI at hl; lia
theorem Tr.valid {v : Nat} (hv : v < n) (u : Int) : ValidR (MM n p kd (sgOf a b c) v u) := fun q hq => ((t.good hkd hv u).2 q hq).1
theorem Tr.kids_valid {v : Nat} (hv : v < n) (u : Int) : (∀ r ∈ (kidsL n p v u).map (fun (w : Nat) => MM n p kd (sgOf a b c) w (v : Int)), ValidR r) ∧ ∀ r ∈ (kidsL n p v u).map (fun (w : Nat) => MM n p kd (sgOf a b c) w (v : Int)), TreeR r := by
  constructor <;> intro r hr <;> obtain ⟨w, hw, rfl⟩ := List.mem_map.mp hr <;> have hw2 := t.nb_lt hv (List.mem_filter.mp hw).1
  · exact t.valid hkd hw2 _
  · exact (t.good hkd hw2 _).1
include R
theorem Tr.can1 {v v' : Nat} (hv : v < n) (hv' : v' < n) (u u' : Int) : MM n p kd (sgOf a b c) v u = MM n p kd (sgOf a b c) v' u' ↔ kd v = kd v' ∧ ((kidsL n p v u).map fun (w : Nat) => MM n p kd (sgOf a b c) w (v : Int)).Perm ((kidsL n p v' u').map fun (w : Nat) => MM n p kd (sgOf a b c) w (v' : Int)) := by
  obtain ⟨k1, k2⟩ := t.kids_valid hkd (a := a) (b := b) (c := c) hv u
  obtain ⟨k3, k4⟩ := t.kids_valid hkd (a := a) (b := b) (c := c) hv' u'
  conv => lhs; rw [t.MM_eq kd (sgOf a b c) hv u, t.MM_eq kd (sgOf a b c) hv' u']
  rw [node_inj (fun r hr => k2 r (mem_sortR hr)) (fun r hr => k4 r (mem_sortR hr)), sortR_eq R k1 k3]
theorem Tr.can0 {v v' : Nat} (hv : v < n) (hv' : v' < n) (u u' : Int) : bareR (MM n p kd (sgOf a b c) v u) = bareR (MM n p kd (sgOf a b c) v' u') ↔ ((kidsL n p v u).map fun (w : Nat) => bareR (MM n p kd (sgOf a b c) w (v : Int))).Perm ((kidsL n p v' u').map fun (w : Nat) => bareR (MM n p kd (sgOf a b c) w (v' : Int))) := by
  obtain ⟨k1, k2⟩ := t.kids_valid hkd (a := a) (b := b) (c := c) hv u
  obtain ⟨k3, k4⟩ := t.kids_valid hkd (a := a) (b := b) (c := c) hv' u'
  conv => lhs; rw [t.MM_eq kd (sgOf a b c) hv u, t.MM_eq kd (sgOf a b c) hv' u', bareR_node, bareR_node]
  have tb : ∀ {l : List Rows}, (∀ r ∈ l, TreeR r) → ∀ r ∈ (sortR (sgOf a b c) l).map bareR, TreeR r := fun hl r hr => by
    obtain ⟨q, hq, rfl⟩ := List.mem_map.mp hr
    exact bare_tree (hl q (mem_sortR hq))
  rw [node_inj (tb k2) (tb k4), sortB_eq R k1 k3, List.map_map, List.map_map]
  exact ⟨fun h => h.2, fun h => ⟨rfl, h⟩⟩
end
theorem lay0 (M : Nat → Int → Rows) (v : Nat) (u : Int) : layC M 0 v u = bareR (M v u) := rfl
theorem lay1 (M : Nat → Int → Rows) (v : Nat) (u : Int) : layC M 1 v u = M v u := rfl
theorem layR_len (lay : Nat) (r : Rows) : lenI (layR lay r) = lenI r := by
  unfold layR lenI bareR
  split
  · rw [List.length_map]
  · rfl
theorem layR_valid {lay : Nat} {r : Rows} (h : ValidR r) : ValidR (layR lay r) := by
  unfold layR
  split
  · exact bare_valid r
  · exact h
theorem lay_figs {lay : Nat} {r : Rows} (h : RowsOk r) : ∀ x ∈ figN (layR lay r), x < 64 ∧ 1 ≤ x := fun x hx => by
  obtain ⟨q, hq, rfl⟩ := List.mem_map.mp hx
  have := (h.lay lay).row q hq
  lia
theorem num_lay {lay : Nat} {r : Rows} (h : RowsOk r) : numL (figs (layR lay r)) = ((horn (figN (layR lay r)) : Nat) : Int) := num_horn fun q hq => ((h.lay lay).row q hq).2.2
theorem num_inj {lay : Nat} {r q : Rows} (hr : RowsOk r) (hq : RowsOk q) (h : numL (figs (layR lay r)) = numL (figs (layR lay q))) : layR lay r = layR lay q := by
  rw [num_lay hr, num_lay hq] at h
  have := horn_inj (lay_figs hr) (lay_figs hq) (Int.ofNat_inj.mp h)
  exact figN_inj (layR_valid fun p hp => (hr.row p hp).1) (layR_valid fun p hp => (hq.row p hp).1) this
theorem kinds_dd (M : Nat → Int → Rows) (lay n : Nat) : kindsN M lay n = (ddL (fun v => numL (figs (layC M lay v (-1)))) n).length := by
  unfold kindsN
  have hl : ((List.range n).map fun v => numV M lay v).length = n := by rw [List.length_map, List.length_range]
  rw [hl]
  have key : ∀ k, k ≤ n → firstMet (fun i => ((List.range n).map fun v => numV M lay v).getD i 0) k = ddL (fun v => numL (figs (layC M lay v (-1)))) k := by
    intro k
    induction k with
    | zero => intro _; rfl
    | succ k ih =>
      intro hk
      have hv : ((List.range n).map fun v => numV M lay v).getD k 0 = numL (figs (layC M lay k (-1))) := by
        rw [List.getD_eq_getElem?_getD, List.getElem?_map, List.getElem?_range (by lia)]; rfl
      rw [firstMet_succ, ih (by lia), hv, ddL]
      unfold step_dedup
      by_cases q : numL (figs (layC M lay k (-1))) ∈ ddL (fun v => numL (figs (layC M lay v (-1)))) k
      · rw [if_pos q, if_pos (List.any_eq_true.mpr ⟨_, q, by simp⟩)]
      · rw [if_neg q, if_neg (fun r => by
          obtain ⟨x, hx, e⟩ := List.any_eq_true.mp r
          have : x = numL (figs (layC M lay k (-1))) := by simpa using e
          exact q (this ▸ hx))]
  rw [key n (Nat.le_refl _)]
theorem pairs_dd (M : Nat → Int → Rows) (p : Nat → Nat) (lay : Nat) : ∀ k, pairsF M p lay k = ddL (fun i => pairN (endN M p lay i) (endF M p lay i)) k
  | 0 => rfl
  | k + 1 => by
    rw [pairsF, ddL, pairs_dd M p lay k]
    by_cases q : pairN (endN M p lay k) (endF M p lay k) ∈ ddL (fun i => pairN (endN M p lay i) (endF M p lay i)) k
    · rw [if_pos q, if_pos q]
    · rw [if_neg q, if_neg q]
theorem twins_tw (M : Nat → Int → Rows) (p : Nat → Nat) (lay : Nat) : ∀ k, twinsF M p lay k = twL (fun i => endN M p lay i = endF M p lay i) k
  | 0 => rfl
  | k + 1 => by rw [twinsF, twL, twins_tw M p lay k]
theorem upL_range {n : Nat} (h : 1 ≤ n) (f : Nat → Int) : sumN f (upL n) = ((List.range (n - 1)).map fun i => f (i + 1)).sum := by
  obtain ⟨m, rfl⟩ : ∃ m, n = m + 1 := ⟨n - 1, by lia⟩
  unfold upL
  rw [List.range_succ_eq_map, List.filter_cons, if_neg (by simp), List.filter_eq_self.mpr (fun x hx => by
    obtain ⟨y, _, rfl⟩ := List.mem_map.mp hx
    simp)]
  unfold sumN
  rw [List.map_map]
  rfl
theorem tr_of (xs : List Int) : Tr (many xs) (parOf xs) := by
  have := nums_len xs
  have hmy : many xs = (nums xs).length + 1 := rfl
  exact ⟨by lia, by lia, fun c hc => par_lt xs c hc⟩
theorem kd_of (xs : List Int) : ∀ v, v < many xs → kdOf xs v < 4 ∧ ((kz xs).getD v 0).toNat + 1 = kdOf xs v ∧ 0 ≤ (kz xs).getD v 0 := fun v hv => by
  have hl := kz_len xs
  have hm : (kz xs).getD v 0 ∈ kz xs := by
    rw [List.getD_eq_getElem?_getD, List.getElem?_eq_getElem (by lia), Option.getD_some]
    exact List.getElem_mem _
  have := kz_bound xs _ hm
  unfold kdOf
  exact ⟨by lia, rfl, this.1⟩
theorem ott_of (xs : List Int) {a b c : Nat} (R : Rise a b c) {lay : Nat} (hlay : lay < 2) :
    Ott (many xs) (parOf xs) (layC (MM (many xs) (parOf xs) (kdOf xs) (sgOf a b c)) lay) (fun v => (kz xs).getD v 0 * ((lay : Nat) : Int)) (szI (many xs) (parOf xs) (kdOf xs) (sgOf a b c)) := by
  have t := tr_of xs
  have hk := kd_of xs
  have hkd : ∀ v, v < many xs → kdOf xs v < 4 := fun v hv => (hk v hv).1
  refine ⟨t, fun v v' hv hv' u u' _ _ _ _ => ?_, fun v hv u => ?_, fun v hv h0 => ?_, fun v hv => t.sz_eq _ _ hv, t.sz_root _ _⟩
  · have : lay = 0 ∨ lay = 1 := by lia
    rcases this with rfl | rfl
    · unfold kidsC
      rw [lay0, lay0, t.can0 R hkd hv hv' u u']
      simp only [Int.natCast_zero, Int.mul_zero, true_and]
      exact Iff.rfl
    · unfold kidsC
      rw [lay1, lay1, t.can1 R hkd hv hv' u u']
      have e1 := hk v hv
      have e2 := hk v' hv'
      have e : kdOf xs v = kdOf xs v' ↔ (kz xs).getD v 0 * ((1 : Nat) : Int) = (kz xs).getD v' 0 * ((1 : Nat) : Int) := by
        rw [← e1.2.1, ← e2.2.1]
        constructor <;> intro h <;> lia
      rw [e]
      exact Iff.rfl
  · show lenI (layR lay _) = _
    rw [layR_len, t.ln_eq _ _ hv u]
    congr 1
    exact sumN_congr fun w _ => (layR_len lay _).symm
  · have := t.sz_par (kdOf xs) (sgOf a b c) hv h0
    exact ⟨(layR_len lay _).trans this.1, (layR_len lay _).trans this.2⟩
theorem law_ok (xs : List Int) (a b c : Nat) (h1 : 33 ≤ a) (h2 : a < b) (h3 : b < c) (h4 : c ≤ 125) : ∃ M dep, LawOk xs (sgOf a b c) M dep := by
  have R : Rise a b c := ⟨h1, h2, h3, h4⟩
  have t := tr_of xs
  have hk := kd_of xs
  have hkd : ∀ v, v < many xs → kdOf xs v < 4 := fun v hv => (hk v hv).1
  have hmy : many xs - 1 = (nums xs).length := rfl
  have hn8 := t.n8
  have hrows : RowsAll (many xs) (MM (many xs) (parOf xs) (kdOf xs) (sgOf a b c)) := fun v hv u => t.rowsOk hkd hv u
  have hval : ∀ v, v < many xs → ∀ u, ValidR (MM (many xs) (parOf xs) (kdOf xs) (sgOf a b c) v u) := fun v hv u => t.valid hkd hv u
  have hdl : ∀ v, v < many xs → ∀ u : Int, ∀ w ∈ nbOf xs v, (w : Int) ≠ u → rank (many xs) (parOf xs) w v < rank (many xs) (parOf xs) v u := fun v hv u w hw hu => t.rank_lt hv hw hu
  have hpar : ∀ i, i < (nums xs).length → i + 1 < many xs ∧ parOf xs (i + 1) < many xs := fun i hi => by
    have := t.lt (i + 1) (by lia)
    lia
  have hsz : ∀ i, i < (nums xs).length → feedC (sgOf a b c) (MM (many xs) (parOf xs) (kdOf xs) (sgOf a b c) (i + 1) ((parOf xs (i + 1) : Nat) : Int)) = szI (many xs) (parOf xs) (kdOf xs) (sgOf a b c) (i + 1) ∧
      feedC (sgOf a b c) (MM (many xs) (parOf xs) (kdOf xs) (sgOf a b c) (parOf xs (i + 1)) ((i + 1 : Nat) : Int)) = (many xs : Int) - szI (many xs) (parOf xs) (kdOf xs) (sgOf a b c) (i + 1) := fun i hi => by
    rw [(feed_cnt _).1, (feed_cnt _).1]
    exact t.sz_par _ _ (hpar i hi).1 (by lia)
  have hprod : ((List.range (nums xs).length).map fun i => feedC (sgOf a b c) (MM (many xs) (parOf xs) (kdOf xs) (sgOf a b c) (i + 1) ((parOf xs (i + 1) : Nat) : Int)) * feedC (sgOf a b c) (MM (many xs) (parOf xs) (kdOf xs) (sgOf a b c) (parOf xs (i + 1)) ((i + 1 : Nat) : Int))).sum =
      sumN (fun v => szI (many xs) (parOf xs) (kdOf xs) (sgOf a b c) v * ((many xs : Int) - szI (many xs) (parOf xs) (kdOf xs) (sgOf a b c) v)) (upL (many xs)) := by
    rw [upL_range t.pos, hmy]
    congr 1
    refine List.map_congr_left fun i hi => ?_
    have := hsz i (List.mem_range.mp hi)
    rw [this.1, this.2]
  have o0 := ott_of xs R (lay := 0) (by decide)
  refine ⟨MM (many xs) (parOf xs) (kdOf xs) (sgOf a b c), rank (many xs) (parOf xs), ?_⟩
  refine { net := ?_, dep20 := ?_, rows := hrows, strip := ?_, views := ?_, ord := ?_, same := ?_, otter := ?_, feed := ?_, feeds := ?_, wiener := ?_ }
  · exact { S := sg_signs R, sg0 := rfl, n8 := hn8, nbr := fun v hv w hw => t.nb_lt hv hw, nbl := fun v hv => t.nb_len hv, kd4 := hkd, depLt := hdl, row := fun v hv u => (hrows v hv u).row, len := fun v hv u => (hrows v hv u).len, eq := fun v hv u => t.MM_eq _ _ hv u }
  · intro v hv u
    have := t.rank_20 hv u
    lia
  · exact fun v hv => strip_ok R (hrows v hv (-1))
  · intro lay hlay
    have o := ott_of xs R hlay
    refine { n8 := hn8, nbr := fun v hv w hw => t.nb_lt hv hw, nbl := fun v hv => t.nb_len hv, depLt := hdl, canEq := fun v v' hv hv' u u' q1 q2 q3 q4 => ?_ }
    rw [o.can v v' hv hv' u u' q1 q2 q3 q4]
    unfold kidsC kidsL kidsR
    rw [List.take_length, List.take_length]
    exact Iff.rfl
  · intro lay hlay v w hv hw
    have r1 := hrows v hv (-1)
    have r2 := hrows w hw (-1)
    have e1 := sgn_fig R (layR_valid (lay := lay) (hval v hv (-1))) (layR_valid (lay := lay) (hval w hw (-1)))
    show sgn (textR (sgOf a b c) (layR lay _)) (textR (sgOf a b c) (layR lay _)) = b2i (decide (numL (figs (layR lay _)) > numL (figs (layR lay _)))) - b2i (decide (numL (figs (layR lay _)) < numL (figs (layR lay _))))
    rw [e1, num_lay r1, num_lay r2]
    have hlen : (figN (layR lay (MM (many xs) (parOf xs) (kdOf xs) (sgOf a b c) v (-1)))).length = (figN (layR lay (MM (many xs) (parOf xs) (kdOf xs) (sgOf a b c) w (-1)))).length := by
      have l1 := (layR_len lay _).trans (t.ln_root (kdOf xs) (sgOf a b c) v hv)
      have l2 := (layR_len lay _).trans (t.ln_root (kdOf xs) (sgOf a b c) w hw)
      unfold lenI at l1 l2
      unfold figN
      rw [List.length_map, List.length_map]
      lia
    have m1 := horn_mono (fun x hx => (lay_figs (lay := lay) r1 x hx).1) (fun x hx => (lay_figs (lay := lay) r2 x hx).1) hlen
    have m2 := horn_mono (fun x hx => (lay_figs (lay := lay) r2 x hx).1) (fun x hx => (lay_figs (lay := lay) r1 x hx).1) hlen.symm
    congr 2
    · refine decide_eq_decide.mpr (m2.trans ?_)
      exact Int.ofNat_lt.symm
    · refine decide_eq_decide.mpr (m1.trans ?_)
      exact Int.ofNat_lt.symm
  · intro lay hlay v w hv hw
    exact sgn_zero R (layR_valid (hval v hv (-1))) (layR_valid (hval w hw (-1)))
  · intro lay hlay
    have o := ott_of xs R hlay
    rw [kinds_dd, pairs_dd, twins_tw]
    exact o.otter (num := fun r => numL (figs r)) fun v v' hv hv' u u' h => num_inj (hrows v hv u) (hrows v' hv' u') h
  · intro i hi
    obtain ⟨q1, q2⟩ := hpar i hi
    rw [(feed_cnt _).1]
    have := t.len_le (kdOf xs) (sgOf a b c) q2 ((i + 1 : Nat) : Int)
    refine ⟨by unfold lenI; lia, by lia⟩
  · rw [hprod]
    refine sumN_nonneg fun v hv => ?_
    have hv2 : v < many xs := by
      have := List.mem_filter.mp hv
      exact List.mem_range.mp this.1
    have := o0.S_pos hv2
    exact Int.mul_nonneg (by lia) (by lia)
  · rw [hprod, ← t.wiener]
    unfold sumN
    congr 1
    exact List.map_congr_left fun v _ => (feed_cnt _).2
end Mine
end

section
open PySem PySem.W PySem.Spec PySem.Calls PyProof.Rows
set_option Elab.async false
set_option maxRecDepth 100000
open Mine
set_option maxHeartbeats 8000000 in
theorem PySem.Challenge.cw_tc0001_01_holds : PySem.Challenge.rw_tc0001_01.Holds := by
  refine Mine.hd ?_
  k_fill
  intro w s₀ s₁ mg mb G Y fa o pm cd doc dV kV ho hd hcd hD hmg hg args vals as hpre hlay hrd hwl hlo
  have KX := kIn_of Y
  have X := (Ground.X G).1
  have V := (Ground.X G).2
  refine Ground.open G ?_
  intro T B D TE TW
  try (refine guard_noD D (by decide +kernel) ?_; clear D)
  obtain ⟨_, _, M⟩ := bmod_of_top T
  have TA := at_of_top T
  wrow_args hpre hlay hrd hwl hlo
  all_goals (
    first | refine callC_kw (enter_call ?_) | refine enter_call ?_ | refine callC_kw (enter_callW ?_) | refine enter_callW ?_ | w_how
    w_top on
    have K0 := below_caller (Top.heap T)
    w_call any ho hd hcd hD T F
    k_drop
    skip)
  (rename Heap.IsList _ _ _ => hL)
  (rename IntsAre _ _ => hI)
  (rename News _ _ _ _ => N0)
  (rename ¬ _ < _ => hlen)
  refine wpAny_mono (law_main (w := w) (Q := fun f s' => f = .ret (.bool true) ∧ ∃ h tk gn, s' = { heap := h, gens := gn, drawn := s₁.drawn, toks := tk, os := s₁.os } ∧ s₁.heap.StaysIn h ∧ (Bare s₁.gens → Bare gn)) KX T hL hI ?_ (law_ok _) F rfl N0 ?_ ?_ ?_ ?_ ?_ ?_ ?_ ?_ ?_) (fun f s' q => ?_) fun _ _ y => y.elim
  case refine_1 => omega
  case refine_10 => exact fun h tk gn st hb => ⟨rfl, h, tk, gn, rfl, st, hb⟩
  case refine_11 =>
    obtain ⟨rfl, h, tk, gn, rfl, st, hb⟩ := q
    refine ⟨.inl ⟨_, _, [], rfl, fun _ => rfl, ReadsW.bool true, (by wrow_post), fun _ => ⟨List.nodup_nil, fun _ hm => (nomatch hm)⟩⟩, .of_keep st, rfl, ?_⟩
    have hb0 : Bare s₁.gens := fun i y e => by rw [hg] at e; simp at e
    intro y hy
    obtain ⟨i, hi, rfl⟩ := Array.getElem_of_mem hy
    exact hb hb0 i _ (Array.getElem?_eq_getElem hi)
  all_goals assumption
end
