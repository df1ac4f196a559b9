import PyProof.Rows.All
import Wide.All
import OpenK.AllK
import Wide.FinOn
import PySem.Challenge.RW_ny0110_01
set_option Elab.async false
set_option rowWalk.seconds 0
section
open PySem PySem.W PyProof.Rows
set_option maxRecDepth 100000
set_option maxHeartbeats 8000000
namespace Mine
open_top hd for PySem.Challenge.rw_ny0110_01
end Mine
end
section
theorem Mine.rsS1 : True := by w_top off; exact True.intro
open PySem PySem.W PyProof.Rows
set_option maxRecDepth 100000
set_option maxHeartbeats 8000000
namespace Mine
/-- the sixteen signs -/
def spec (c : Nat) : Bool := [32, 40, 41, 60, 62, 64, 44, 59, 58, 92, 34, 47, 91, 93, 63, 61].contains c
def code : Array Nat := #[14, 14, 4, 1, 1, 9, 0, 4227896069, 939524097, 0, 0, 0, 0, 0, 0, 13, 11, 9, 0, 4227896069, 939524097, 0, 0, 0, 0, 0, 0, 1]

theorem spec_big {c : Nat} (h : ¬ c < 256) : spec c = false := by
  unfold spec
  simp only [List.contains_eq_mem, List.mem_cons, List.not_mem_nil, or_false, decide_eq_false_iff_not]
  omega

theorem bits5 : ∀ c : Nat, c < 256 → (code.getD (5 + (1 + c / 32)) 0).testBit (c % 32) = spec c := by decide +kernel
theorem bits17 : ∀ c : Nat, c < 256 → (code.getD (17 + (1 + c / 32)) 0).testBit (c % 32) = spec c := by decide +kernel

theorem inSetEnd (c n i : Nat) (seen : Sre.Seen) (e : Sre.ops[code.getD (i + 0) 0]? = some .FAILURE) : ∃ seen', Sre.inSet code c (n + 1) i true seen = .ok (false, seen') := by
  unfold Sre.inSet
  simp only [e]
  exact ⟨_, rfl⟩
theorem inSetOne (c n i : Nat) (seen : Sre.Seen) (e : Sre.ops[code.getD (i + 0) 0]? = some .CHARSET) (e9 : Sre.ops[code.getD (i + 9 + 0) 0]? = some .FAILURE)
    (hb : ∀ c : Nat, c < 256 → (code.getD (i + (1 + c / 32)) 0).testBit (c % 32) = spec c) : ∃ seen', Sre.inSet code c (n + 1 + 1) i true seen = .ok (spec c, seen') := by
  unfold Sre.inSet
  simp only [e]
  by_cases h : c < 256
  · rw [hb c h]
    cases hs : spec c with
    | true => rw [if_pos (by simp [h])]; exact ⟨_, rfl⟩
    | false => rw [if_neg (by simp)]; exact inSetEnd c n (i + 9) _ e9
  · rw [spec_big h, if_neg (by simp [h])]
    exact inSetEnd c n (i + 9) _ e9
theorem inSet5 (c : Nat) (seen : Sre.Seen) : ∃ seen', Sre.inSet code c 28 5 true seen = .ok (spec c, seen') := inSetOne c 26 5 seen rfl rfl bits5
theorem inSet17 (c : Nat) (seen : Sre.Seen) : ∃ seen', Sre.inSet code c 28 17 true seen = .ok (spec c, seen') := inSetOne c 26 17 seen rfl rfl bits17

theorem accepts15 (c : Nat) (seen : Sre.Seen) : ∃ seen', Sre.accepts code 15 c seen = .ok (spec c, seen') := by
  unfold Sre.accepts
  have e0 : Sre.ops[code.getD 15 0]? = some .IN := rfl
  simp only [e0]
  exact inSet17 c seen

/-- some sign of the text's from i on is one of the sixteen -/
theorem admitted_some (m : Sre.M) (hc : m.code = code) : ∀ (fuel i : Nat) (seen : Sre.Seen), m.lim < fuel + i →
    (∃ j, i ≤ j ∧ j < m.lim ∧ spec (m.text.getD j 0) = true ∧ ∃ seen', m.admitted fuel i seen = .ok (some j, seen')) ∨
    ((∀ j, i ≤ j → j < m.lim → spec (m.text.getD j 0) = false) ∧ ∃ seen', m.admitted fuel i seen = .ok (none, seen')) := by
  intro fuel
  induction fuel with
  | zero => intro i seen h; exact .inr ⟨fun j h1 h2 => by omega, seen, rfl⟩
  | succ n ih =>
    intro i seen h
    unfold Sre.M.admitted
    by_cases hi : i ≥ m.lim
    · exact .inr ⟨fun j h1 h2 => by omega, seen, by rw [if_pos hi]⟩
    rw [if_neg hi, hc]
    obtain ⟨seen', e⟩ := inSet5 (m.text.getD i 0) seen
    have e28 : code.size = 28 := rfl
    rw [e28, e]
    cases hs : spec (m.text.getD i 0) with
    | true => exact .inl ⟨i, Nat.le_refl _, by omega, hs, seen', rfl⟩
    | false =>
      rcases ih (i + 1) seen' (by omega) with ⟨j, h1, h2, h3, s2, e2⟩ | ⟨h1, s2, e2⟩
      · exact .inl ⟨j, by omega, h2, h3, s2, e2⟩
      · refine .inr ⟨fun j h3 h4 => ?_, s2, e2⟩
        by_cases hj : j = i
        · subst hj; exact hs
        · exact h1 j (by omega) h4

def ReNo (m : Sre.M) : Prop := (m.runFor 4).outcome = some .failed
theorem runFor_done {m : Sre.M} {n : Nat} (h : m.outcome.isSome = true) : m.runFor n = m := by
  cases n with
  | zero => rfl
  | succ n => unfold Sre.M.runFor; rw [if_pos h]
theorem runFor_succ {m : Sre.M} {n : Nat} (h : m.outcome = none) : m.runFor (n + 1) = m.step.runFor n := by
  rw [Sre.M.runFor, h]; rfl
theorem run_no {m : Sre.M} (h0 : m.outcome = none) (h1 : m.answer = some false) (h2 : m.frames = []) : (m.runFor 4).outcome = some .failed := by
  rw [show (4 : Nat) = 3 + 1 from rfl, runFor_succ h0]
  have e : m.step = { m with outcome := some .failed } := by
    unfold Sre.M.step
    rw [h0, h1, h2]
    rfl
  rw [e, runFor_done rfl]
theorem step_in {m : Sre.M} (hc : m.code = code) (h0 : m.outcome = none) (h1 : m.answer = none) (hpc : m.pc = 15) (hp : m.pos < m.lim) (hs : spec (m.text.getD m.pos 0) = true) :
    ∃ seen', m.step = { m with seen := seen', pc := 27, pos := m.pos + 1 } := by
  obtain ⟨code', text, lim, start, lastStart, wholeText, mustAdvance, pc, pos, handed, outermost, marks, lastmark, lastindex, loops, inner, frames, weight, answer, seen, outcome⟩ := m
  dsimp only at hc h0 h1 hpc hp hs
  subst hc h0 h1 hpc
  obtain ⟨seen', e⟩ := accepts15 (text.getD pos 0) (seen.add 13)
  rw [hs] at e
  refine ⟨seen', ?_⟩
  unfold Sre.M.step
  dsimp only
  rw [if_neg (by decide), if_pos (by decide)]
  unfold Sre.M.exec
  have e0 : Sre.ops[(code.getD (15 + 0) 0)]? = some .IN := rfl
  simp only [Sre.M.word, e0]
  rw [if_neg (by omega)]
  rw [show code.getD (15 + 0) 0 = 13 from rfl, e]
  rfl
theorem step_succ {m : Sre.M} (hc : m.code = code) (h0 : m.outcome = none) (h1 : m.answer = none) (hpc : m.pc = 27) (hw : m.wholeText = false) (ha : m.mustAdvance = false) :
    ∃ seen', m.step = { m with seen := seen', handed := m.pos, answer := some true } := by
  obtain ⟨code', text, lim, start, lastStart, wholeText, mustAdvance, pc, pos, handed, outermost, marks, lastmark, lastindex, loops, inner, frames, weight, answer, seen, outcome⟩ := m
  dsimp only at hc h0 h1 hpc hw ha
  subst hc h0 h1 hpc hw ha
  refine ⟨seen.add 1, ?_⟩
  unfold Sre.M.step
  dsimp only
  rw [if_neg (by decide), if_pos (by decide)]
  unfold Sre.M.exec
  have e0 : Sre.ops[(code.getD (27 + 0) 0)]? = some .SUCCESS := rfl
  simp only [Sre.M.word, e0]
  rw [if_neg (by simp)]
  rfl
theorem step_back {m : Sre.M} {f : Sre.Frame} (h0 : m.outcome = none) (h1 : m.answer = some true) (hf : m.frames = [f]) (hw : f.wait = .nextStart) :
    ∃ m', m.step = m' ∧ m'.outcome = none ∧ m'.answer = some true ∧ m'.frames = [] := by
  refine ⟨_, rfl, ?_⟩
  unfold Sre.M.step
  rw [h0, h1, hf]
  unfold Sre.M.resume
  dsimp only
  rw [hw]
  exact ⟨rfl, rfl, rfl⟩
theorem step_end {m : Sre.M} (h0 : m.outcome = none) (h1 : m.answer = some true) (hf : m.frames = []) : m.step.outcome = some .matched := by
  unfold Sre.M.step
  rw [h0, h1, hf]
  rfl
theorem run4 {m m1 m2 m3 : Sre.M} (h0 : m.outcome = none) (e1 : m.step = m1) (h1 : m1.outcome = none) (e2 : m1.step = m2) (h2 : m2.outcome = none) (e3 : m2.step = m3) (h3 : m3.outcome = none) : m.runFor 4 = m3.step := by
  rw [show (4 : Nat) = 0 + 1 + 1 + 1 + 1 from rfl, runFor_succ h0, e1, runFor_succ h1, e2, runFor_succ h2, e3, runFor_succ h3]
  rfl
theorem run_yes {m : Sre.M} (hc : m.code = code) (h0 : m.outcome = none) (h1 : m.answer = none) (h2 : m.frames = []) (hpc : m.pc = 15) (hw : m.wholeText = false) (ha : m.mustAdvance = false) (hwt : m.weight = 0) {j : Nat} (b : Bool) (hj : j < m.lim) (hs : spec (m.text.getD j 0) = true) :
    ((m.attemptAt j b).runFor 4).outcome = some .matched := by
  obtain ⟨f, hf, e1⟩ : ∃ f : Sre.Frame, f.wait = .nextStart ∧ m.attemptAt j b = { m with start := j, pos := j, lastmark := -1, lastindex := -1, frames := [f], weight := 1, handed := j, outermost := b } := by
    refine ⟨{ wait := .nextStart, pc := m.pc, pos := j, outermost := b }, rfl, ?_⟩
    unfold Sre.M.attemptAt Sre.M.attempt
    dsimp only
    rw [if_neg (by rw [hwt]; decide), h2, hwt]
    rfl
  obtain ⟨s2, e2⟩ := step_in (m := { m with start := j, pos := j, lastmark := -1, lastindex := -1, frames := [f], weight := 1, handed := j, outermost := b }) hc h0 h1 hpc hj hs
  obtain ⟨s3, e3⟩ := step_succ (m := { m with start := j, pos := j + 1, lastmark := -1, lastindex := -1, frames := [f], weight := 1, handed := j, outermost := b, seen := s2, pc := 27 }) hc h0 h1 rfl hw ha
  obtain ⟨m4, e4, g0, g1, g2⟩ := step_back (m := { m with start := j, pos := j + 1, lastmark := -1, lastindex := -1, frames := [f], weight := 1, handed := j + 1, outermost := b, seen := s3, pc := 27, answer := some true }) h0 rfl rfl hf
  rw [e1, run4 (m := { m with start := j, pos := j, lastmark := -1, lastindex := -1, frames := [f], weight := 1, handed := j, outermost := b }) h0 e2 h0 e3 h0 e4 g0]
  exact step_end g0 g1 g2

def hasSpec (v : Str) : Bool := v.cps.toList.any spec

theorem search_make0 (v : Str) (hv : v.cps.size = 0) : ∃ m : Sre.M, Sre.forSearch code v.cps 0 0 v.cps.size false = m.say false ∧ m.outcome = none ∧ m.frames = [] := by
  unfold Sre.forSearch
  have hh : Sre.header code = (1, 15) := rfl
  simp only [hh]
  exact ⟨_, if_pos (by simp [hv]), rfl, rfl⟩
theorem search_make (v : Str) (hv : v.cps.size ≠ 0) : ∃ m : Sre.M, Sre.forSearch code v.cps 0 0 v.cps.size false = m.attemptFrom 0 true ∧
    m.code = code ∧ m.outcome = none ∧ m.answer = none ∧ m.frames = [] ∧ m.pc = 15 ∧ m.wholeText = false ∧ m.mustAdvance = false ∧ m.weight = 0 ∧ m.lim = v.cps.size ∧ m.text = v.cps := by
  unfold Sre.forSearch
  have hh : Sre.header code = (1, 15) := rfl
  simp only [hh]
  exact ⟨_, if_neg (by simpa using hv), rfl, rfl, rfl, rfl, rfl, rfl, rfl, rfl, rfl, rfl⟩

theorem search_run (v : Str) : ((Sre.forSearch code v.cps 0 0 v.cps.size false).runFor 4).outcome = some (if hasSpec v then .matched else .failed) := by
  by_cases hv : v.cps.size = 0
  · have hn : hasSpec v = false := by
      unfold hasSpec
      have : v.cps.toList = [] := by simpa using hv
      rw [this]; rfl
    obtain ⟨m, e, h2, h4⟩ := search_make0 v hv
    rw [e, hn]
    exact run_no h2 rfl h4
  · obtain ⟨m, e, h1, h2, h3, h4, h5, h6, h7, h8, h9, h10⟩ := search_make v hv
    rw [e]
    unfold Sre.M.attemptFrom
    have hf : m.hasFirstSet = true := by unfold Sre.M.hasFirstSet; rw [h1]; rfl
    rw [hf, if_neg (by decide)]
    rcases admitted_some m h1 (m.lim + 1 - 0) 0 m.seen (by omega) with ⟨j, a1, a2, a3, s2, a4⟩ | ⟨a1, s2, a4⟩
    · rw [a4]
      have hn : hasSpec v = true := by
        unfold hasSpec
        refine List.any_eq_true.mpr ⟨v.cps.getD j 0, ?_, by rw [← h10]; exact a3⟩
        have hj : j < v.cps.size := by omega
        rw [Array.getD_eq_getD_getElem?, Array.getElem?_eq_getElem hj]
        simp
      rw [hn]
      exact run_yes (m := { m with mustAdvance := false, seen := s2 }) h1 h2 h3 h4 h5 h6 rfl h8 true a2 a3
    · rw [a4]
      have hn : hasSpec v = false := by
        unfold hasSpec
        rw [Bool.eq_false_iff]
        intro q
        obtain ⟨c, hc, hs⟩ := List.any_eq_true.mp q
        obtain ⟨j, hj, hje⟩ := List.mem_iff_getElem.mp hc
        have hj' : j < v.cps.size := by simpa using hj
        have := a1 j (by omega) (by omega)
        rw [h10, Array.getD_eq_getD_getElem?, Array.getElem?_eq_getElem hj'] at this
        have e3 : v.cps[j] = c := by simpa using hje
        rw [e3] at this
        simp [hs] at this
      rw [hn]
      exact run_no (m := ({ m with seen := s2 } : Sre.M).say false) h2 rfl h4
end Mine
end
section
theorem Mine.rsS2 : True := by w_top off; exact True.intro
open PySem PySem.W PyProof.Rows
set_option maxRecDepth 100000
set_option maxHeartbeats 8000000
namespace Mine
open PySem.Builtin.Re
theorem pa_pat : PlainAttrs "re.Pattern" :=
  ⟨⟨"object.__getattribute__", by rw [typeLookup_type, builtinLookup_eq_fast]; kernel_rfl, by decide +kernel⟩, by rw [typeLookup_type, builtinLookup_eq_fast]; kernel_rfl⟩
theorem owner_pat : Manifest.owners.lookup (String.ofList ['n', 'r', 'e', 't', 't', 'a', 'P', '.', 'e', 'r'].reverse) = some Manifest.sig_re_Pattern := by kernel_rfl
theorem slot_search : Slot "re.Pattern" "search" "re.Pattern.search" :=
  .of (owner := "re.Pattern") (n := "search") (by rw [typeLookup_type, builtinLookup_eq_fast]; kernel_rfl) (by decide +kernel) (by decide +kernel) (by decide +kernel)
    (by first | exact .inl (by decide +kernel) | exact .inr (by decide +kernel)) (by rw [isSubtype_type]; kernel_rfl)
theorem type_search : typeOf (.builtin "re.Pattern.search") = pure (.type "method_descriptor") := by show builtinType _ = _; rw [builtinType_eq_fast]; kernel_rfl
theorem entry_search : entryFor table "re.Pattern.search" = some Builtin.«re.Pattern.search» := entryFor_of_tree (by kernel_rfl)
theorem args_search (a b : Value) : argsOk "re.Pattern.search" ⟨[a, b], []⟩ := by
  unfold argsOk; kernel_rfl
theorem named_search (v : Value) : reNamed "re.Pattern.search" "search" ["string", "pos", "endpos"] 1 [v] [] = pure [some v, none, none] := by kernel_rfl

section
variable {M : Model} {A : Around} {E : Value → Shared → Prop} {s : Shared}

theorem wp_reDrive {m : Sre.M} {o : Sre.Outcome} {Q : Sre.M → Shared → Prop} (n : Nat) (h : (m.runFor 4).outcome = some o) (hq : Q (m.runFor 4) s) : wpAny M A (reDrive (n + 1) m) Q E s := by
  unfold reDrive
  show wpAny M A (if (m.runFor 4).outcome.isSome = true then pure (m.runFor 4) else _) Q E s
  rw [if_pos (by rw [h]; rfl)]
  exact wpAny_pure hq

theorem wp_rules {f : Nat → PUnit → Sem (ForInStep PUnit)} {Q : PUnit → Shared → Prop} (hf : ∀ i b s (Q : ForInStep PUnit → Shared → Prop), Q (.yield ⟨⟩) s → wpAny M A (f i b) Q E s) (l : List Nat) (hq : Q ⟨⟩ s) :
    wpAny M A (forIn l PUnit.unit f) Q E s :=
  wpAny_forIn_list _ (fun _ _ s' => Q ⟨⟩ s') Q (fun i _ b s' h => hf i b s' _ h) (fun _ _ h => h) l _ hq

theorem wp_runToEnd {m : Sre.M} {b : Bool} {Q : Option Sre.M → Shared → Prop} (h : (m.runFor 4).outcome = some (if b then .matched else .failed)) (hq : Q (if b then some (m.runFor 4) else none) s) :
    wpAny M A (reRunToEnd m) Q E s := by
  unfold reRunToEnd
  rw [show (2 : Nat) ^ 64 = 18446744073709551615 + 1 from by decide +kernel]
  refine wpAny_bind (wp_reDrive _ h ?_)
  refine wpAny_bind (wp_rules (fun i b s Q h => ?_) _ ?_)
  · split
    · exact wpAny_bind (wpAny_rule (wpAny_pure h))
    · exact wpAny_pure h
  rw [h]
  cases b with
  | true => exact wpAny_pure hq
  | false => exact wpAny_pure hq
end

abbrev patObj : Obj := { cls := .type "re.Pattern", data := .fields #[.str (Str.ofString "[ \\(\\)<>@,;:\\\\\"/\\[\\]\\?=]") 285, .int 32 316, .int 0 0, .none, .none, .ref 35, .int 0 0] }
abbrev codeVals : Array Value := #[.int 14 0, .int 14 0, .int 4 0, .int 1 0, .int 1 0, .int 9 0, .int 0 0, .int 4227896069 0, .int 939524097 0, .int 0 0, .int 0 0, .int 0 0, .int 0 0, .int 0 0, .int 0 0, .int 13 0, .int 11 0, .int 9 0, .int 0 0, .int 4227896069 0, .int 939524097 0, .int 0 0, .int 0 0, .int 0 0, .int 0 0, .int 0 0, .int 0 0, .int 1 0]
abbrev codeObj : Obj := { cls := .type "tuple", data := .seq codeVals }
theorem code_of : (codeVals.map reRawOf).map (·.toNat) = code := by decide +kernel
theorem pat_at {w : World} {h : Heap} (X : (hd.heap_39 w.params).In h) : h.get? 36 = some patObj := X _ _ rfl
theorem code_at {w : World} {h : Heap} (X : (hd.heap_39 w.params).In h) : h.get? 35 = some codeObj := X _ _ rfl
abbrev matchObj (fs : Array Value) : Obj := { cls := .type "re.Match", data := .fields fs }

section
variable {prog : Program} {w : World} {A : Around} {E : Value → Shared → Prop} {s : Shared} {h₀ : Heap} {L : Addr} {m : Str → Option Value} {news : List (Addr × Obj)} {Q : Value → Shared → Prop} {v : Str} {t : Tok}
theorem news_two {h : Heap} {o1 : Obj} {fs : Array Value} (F : Fr h₀ L h m) (N : News h₀ L h news) (hf : o1.isFreed = false := by rfl) : News h₀ L ((h.push o1).push (matchObj fs)) (((h.push o1).objs.size, matchObj fs) :: news) := by
  intro p hp
  refine News.push (F.push o1) (News.push F N o1 hf) (matchObj fs) rfl p ?_
  rcases List.mem_cons.mp hp with rfl | hp
  · exact .head _
  · exact .tail _ (.tail _ hp)
theorem search_call (F : Fr h₀ L s.heap m) (N : News h₀ L s.heap news) (X : (hd.heap_39 w.params).In h₀) (hl : v.length ≤ 1048576)
    (hno : hasSpec v = false → Q .none s)
    (hyes : hasSpec v = true → ∀ b fs h', Fr h₀ L h' m → News h₀ L h' ((b, matchObj fs) :: news) → Q (.ref b) { s with heap := h' }) :
    wpAny (model prog w) A (call (.builtin "re.Pattern.search") [.ref 36, .str v t]) Q E s := by
  have P := pat_at (X.keeps F.keep)
  have C := code_at (X.keeps F.keep)
  refine wpAny_call_entry slot_search ⟨_, P, rfl⟩ entry_search ?_ (args_search _ _)
  unfold Builtin.«re.Pattern.search»
  refine wpAny_bind ?_
  unfold reTarget
  dsimp only
  rw [named_search]
  refine wpAny_bind (wpAny_pure ?_)
  dsimp only
  refine wpAny_bind (wpAny_pure ?_)
  refine wpAny_bind (wpAny_pure ?_)
  refine wpAny_bind (wpAny_fieldsOf P rfl ?_)
  unfold reTextOf
  refine wpAny_bind (wpAny_pure ?_)
  dsimp only
  refine wpAny_bind (wpAny_pure ?_)
  refine wpAny_bind (wpAny_bind (wpAny_bind (wpAny_load C (wpAny_pure (wpAny_pure ?_)))))
  refine wpAny_pure ?_
  dsimp only [Option.getD_some]
  rw [code_of]
  have e1 : min (Int.toNat 0) v.cps.size = 0 := Nat.zero_min _
  have e2 : min ((2 : Int) ^ 63 - 1).toNat v.cps.size = v.cps.size := by
    have : ((2 : Int) ^ 63 - 1).toNat = 9223372036854775807 := by decide +kernel
    have h2 : v.cps.size ≤ 1048576 := hl
    omega
  have e3 : reRawNat (#[Value.str (Str.ofString "[ \\(\\)<>@,;:\\\\\"/\\[\\]\\?=]") 285, Value.int 32 316, Value.int 0 0, Value.none, Value.none, Value.ref 35, Value.int 0 0].getD 2 Value.none) = 0 := rfl
  rw [e1, e2, e3]
  unfold reAnswer
  refine wpAny_bind (wp_runToEnd (search_run v) ?_)
  cases hs : hasSpec v with
  | false => exact wpAny_pure ⟨_, rfl, hno hs⟩
  | true =>
    dsimp only [if_true]
    unfold reNewMatch
    refine wpAny_bind ?_
    rw [if_neg (by rw [List.range_zero]; exact Bool.false_ne_true)]
    refine wpAny_bind (wpAny_newTuple ?_ ?_)
    rotate_left
    · rw [List.range_zero]; show (2 : Nat) ≤ sizeLine; decide
    refine wpAny_newObj_type ?_ (by size_fits)
    exact wpAny_pure ⟨_, rfl, hyes hs _ _ _ ((F.push _).push _) (news_two F N)⟩

theorem getMethod_search {pl : Sem Bool} {Q : Value × List Value → Shared → Prop} (F : Fr h₀ L s.heap m) (X : (hd.heap_39 w.params).In h₀) (h : Q (.builtin "re.Pattern.search", [.ref 36]) s) :
    wpAny (model prog w) A (getMethod (.ref 36) (Str.ofString "search") pl) Q E s :=
  have P := pat_at (X.keeps F.keep)
  getMethod_builtin ⟨_, P, rfl⟩ pa_pat slot_search type_search (fun _ e => by cases e; exact ⟨_, P, rfl⟩) h
theorem noBool_match : typeLookup (.type "re.Match") "__bool__" = pure none := by rw [typeLookup_type, builtinLookup_eq_fast]; kernel_rfl
theorem noLen_match : typeLookup (.type "re.Match") "__len__" = pure none := by rw [typeLookup_type, builtinLookup_eq_fast]; kernel_rfl
theorem truthy_match {b : Addr} {fs : Array Value} {Q : Bool → Shared → Prop} (N : News h₀ L s.heap news) (hm : (b, matchObj fs) ∈ news) (h : Q true s) : wpAny (model prog w) A (truthy (.ref b)) Q E s := by
  have hT : s.TypeIs (.ref b) "re.Match" := ⟨_, (N _ hm).1, rfl⟩
  unfold truthy
  refine wpAny_bind (wpAny_callSpecial?_none (name := Str.ofString "__bool__") hT noBool_match ?_)
  dsimp only
  refine wpAny_bind (wpAny_specialOf hT noLen_match ?_)
  exact wpAny_pure h
end
end Mine
end
section
theorem Mine.rsT1 : True := by w_top off; exact True.intro
open PySem PySem.W PyProof.Rows
set_option maxRecDepth 100000
set_option maxHeartbeats 8000000
namespace Mine
open PySem.Builtin PySem.Builtin.Str
/-- a sign for a text -/
def sub (c : Nat) (z : List Nat) (k : Nat) : List Nat := if k = c then z else [k]
theorem sub_free (c : Nat) (z : List Nat) : ∀ l : List Nat, c ∉ l → l.flatMap (sub c z) = l
  | [], _ => rfl
  | k :: r, h => by
    have h1 : ¬ k = c := fun e => h (e ▸ List.mem_cons_self ..)
    have h2 : c ∉ r := fun m => h (List.mem_cons_of_mem _ m)
    rw [List.flatMap_cons, sub_free c z r h2]
    simp [sub, h1]
theorem sub_join (c : Nat) (z : Str) : ∀ parts : List Str, (∀ p ∈ parts, c ∉ p.cps.toList) → (Str.join ⟨#[c]⟩ parts).cps.toList.flatMap (sub c z.cps.toList) = (Str.join z parts).cps.toList
  | [], _ => rfl
  | [p], h => sub_free c _ _ (h p (List.mem_singleton.mpr rfl))
  | p :: q :: r, h => by
    have ih := sub_join c z (q :: r) fun a ha => h a (List.mem_cons_of_mem _ ha)
    show (p ++ ⟨#[c]⟩ ++ Str.join ⟨#[c]⟩ (q :: r)).cps.toList.flatMap (sub c z.cps.toList) = (p ++ z ++ Str.join z (q :: r)).cps.toList
    simp only [Str.cps_append, Array.toList_append, List.flatMap_append]
    rw [ih, sub_free c _ _ (h p (List.mem_cons_self ..))]
    simp [sub]
theorem replace_sub (x z : Str) (c : Nat) : (Txt.replace x ⟨#[c]⟩ z).cps.toList = x.cps.toList.flatMap (sub c z.cps.toList) := by
  rw [StrLaws.replace_one, ← sub_join c z _ (StrLaws.split_free x c), StrLaws.join_split]

/-- each mark and each bar with a bar ahead -/
def escL (l : List Nat) : List Nat := l.flatMap fun k => if k = 34 ∨ k = 92 then [92, k] else [k]
def esc (v : Str) : Str := ⟨(escL v.cps.toList).toArray⟩
theorem esc_two (l : List Nat) : (l.flatMap (sub 92 [92, 92])).flatMap (sub 34 [92, 34]) = escL l := by
  unfold escL
  rw [List.flatMap_assoc]
  congr 1
  funext k
  unfold sub
  by_cases h : k = 92
  · simp [h]
  · by_cases h2 : k = 34
    · simp [h2]
    · simp [h, h2]
theorem str_ext {a b : Str} (h : a.cps.toList = b.cps.toList) : a = b := by
  obtain ⟨⟨x⟩⟩ := a
  obtain ⟨⟨y⟩⟩ := b
  cases (show x = y from h)
  rfl
theorem lit_bar : Str.ofString "\\" = ⟨#[92]⟩ := by decide +kernel
theorem lit_bars : Str.ofString "\\\\" = ⟨#[92, 92]⟩ := by decide +kernel
theorem lit_mark : Str.ofString "\"" = ⟨#[34]⟩ := by decide +kernel
theorem lit_barmark : Str.ofString "\\\"" = ⟨#[92, 34]⟩ := by decide +kernel
theorem replace_twice (v : Str) : Txt.replace (Txt.replace v (Str.ofString "\\") (Str.ofString "\\\\")) (Str.ofString "\"") (Str.ofString "\\\"") = esc v := by
  rw [lit_bar, lit_bars, lit_mark, lit_barmark]
  apply str_ext
  rw [replace_sub, replace_sub]
  exact esc_two _
theorem flat_len (l : List Nat) (f : Nat → List Nat) (h : ∀ k, (f k).length ≤ 2) : (l.flatMap f).length ≤ 2 * l.length := by
  induction l with
  | nil => simp
  | cons k r ih =>
    rw [List.flatMap_cons, List.length_append, List.length_cons]
    have := h k
    omega
theorem replace_len (v : Str) : (Txt.replace v (Str.ofString "\\") (Str.ofString "\\\\")).length ≤ 2 * v.length := by
  rw [lit_bar, lit_bars]
  have e := replace_sub v ⟨#[92, 92]⟩ 92
  have h := flat_len v.cps.toList (sub 92 [92, 92]) (fun k => by unfold sub; split <;> simp)
  have e2 : (Txt.replace v ⟨#[92]⟩ ⟨#[92, 92]⟩).length = (Txt.replace v ⟨#[92]⟩ ⟨#[92, 92]⟩).cps.toList.length := by simp [Str.length]
  rw [e2, e]
  simpa [Str.length] using h
theorem esc_len (v : Str) : (esc v).length ≤ 2 * v.length := by
  have h := flat_len v.cps.toList (fun k => if k = 34 ∨ k = 92 then [92, k] else [k]) (fun k => by split <;> simp)
  simpa [Str.length, esc, escL] using h

/-- what _formatparam gives -/
def fmt (n v : Str) (q : Bool) : Str :=
  if v.length = 0 then n else if (q || hasSpec v) = true then n ++ Str.ofString "=\"" ++ esc v ++ Str.ofString "\"" else n ++ Str.ofString "=" ++ v

section
variable {n v e : Str} {q : Int}
theorem fmt_a (h : (0 : Int) < v.length) (he : e = esc v) (hq : q ≠ 0) : Str.empty ++ n ++ Str.ofString "=\"" ++ e ++ Str.ofString "\"" = fmt n v (decide (q ≠ 0)) := by
  subst he; unfold fmt; rw [if_neg (by omega), if_pos (by simp [hq]), Str.empty_append]
theorem fmt_b (h : (0 : Int) < v.length) (he : e = esc v) (hs : hasSpec v = true) : Str.empty ++ n ++ Str.ofString "=\"" ++ e ++ Str.ofString "\"" = fmt n v (decide (q ≠ 0)) := by
  subst he; unfold fmt; rw [if_neg (by omega), if_pos (by simp [hs]), Str.empty_append]
theorem fmt_c (h : (0 : Int) < v.length) (hq : q = 0) (hs : hasSpec v = false) : Str.empty ++ n ++ Str.ofString "=" ++ v = fmt n v (decide (q ≠ 0)) := by
  unfold fmt; rw [if_neg (by omega), if_neg (by simp [hs, hq]), Str.empty_append]
theorem fmt_d {b : Bool} (h : ¬ (0 : Int) < v.length) : n = fmt n v b := by
  unfold fmt; rw [if_pos (by omega)]
theorem fmt_e (h : (0 : Int) < v.length) (he : e = esc v) : Str.empty ++ n ++ Str.ofString "=\"" ++ e ++ Str.ofString "\"" = fmt n v true := by
  subst he; unfold fmt; rw [if_neg (by omega), if_pos (by simp), Str.empty_append]
end
section
variable {prog : Program} {w : World} {A : Around} {E : Value → Shared → Prop} {s : Shared} {x y z : Str} {t u v : Tok} {Q : Value → Shared → Prop}
theorem replaceT (hu : u ≠ 0) (hv : v ≠ 0) (huv : u ≠ v) (hyz : (y == z) = false) (hb : x.length + (x.length + 1) * z.length ≤ 16777216)
    (hq : ∀ t' k, s.toks ≤ k → Q (.str (Txt.replace x y z) t') { s with toks := k }) : wpAny (model prog w) A (call (.builtin "str.replace") [.str x t, .str y u, .str z v]) Q E s := by
  have e : (2 : Nat) ^ 24 = 16777216 := by decide
  have hl : tooLong (x.length + (occurrences x y 0 x.length (x.length + 1)).length * z.length) = false := by
    have h1 := StrLaws.occ_length_le x y 0 x.length (x.length + 1)
    have h2 : (occurrences x y 0 x.length (x.length + 1)).length * z.length ≤ (x.length + 1) * z.length := Nat.mul_le_mul_right _ h1
    unfold tooLong sizeLine
    exact decide_eq_false (by omega)
  refine call_gives F.slot_str_replace (typeIs_str _ _ _) F.entry_str_replace (F.args_str_replace_3 _ _ _)
    (gives_str_replace x y z t u v fun _ => ⟨by simp [hu, hv], by simp [huv], hyz, hl⟩) ?_
  have hq' := hq
  unfold Txt.replace at hq'
  cases hc : ((occurrences x y 0 x.length (x.length + 1)).isEmpty || (y.length == 0 && z.length == 0))
  · rw [hc] at hq'
    simp only [Bool.false_eq_true, if_false] at hq' ⊢
    exact ⟨fits_replaced y hb, hq' _ _ (Nat.le_succ _)⟩
  · rw [hc] at hq'
    simp only [if_true] at hq' ⊢
    exact hq' t s.toks (Nat.le_refl _)
theorem tok_ne {a k : Nat} (h : a + 1 ≤ k) : k ≠ 0 := by omega
theorem tok_self {k : Nat} : k ≠ k + 1 := by omega
theorem fits_rep (hx : x.length ≤ 1000000) (hz : z.length ≤ 2) : x.length + (x.length + 1) * z.length ≤ 16777216 := by
  have h1 : (x.length + 1) * z.length ≤ (x.length + 1) * 2 := Nat.mul_le_mul_left _ hz
  omega
theorem replaceT2 {a : Str} (hu : u ≠ 0) (hv : v ≠ 0) (huv : u ≠ v) (hb : a.length ≤ 100000)
    (hq : ∀ e t' k, e = esc a → e.length ≤ 2 * a.length → s.toks ≤ k → Q (.str e t') { s with toks := k }) :
    wpAny (model prog w) A (call (.builtin "str.replace") [.str (Txt.replace a (Str.ofString "\\") (Str.ofString "\\\\")) t, .str (Str.ofString "\"") u, .str (Str.ofString "\\\"") v]) Q E s := by
  refine replaceT hu hv huv (by decide +kernel) (fits_rep (Nat.le_trans (replace_len _) (by omega)) (by decide +kernel)) fun t' k hk => ?_
  rw [replace_twice]
  exact hq _ _ _ rfl (esc_len a) hk
end

theorem lit_specs : Str.ofString " ()<>@,;:\\\"/[]?=" = ⟨#[32, 40, 41, 60, 62, 64, 44, 59, 58, 92, 34, 47, 91, 93, 63, 61]⟩ := by decide +kernel
theorem lit_markbar : Str.ofString "\"\\" = ⟨#[34, 92]⟩ := by decide +kernel
theorem occ_spec (c : Nat) : (occurrences (Str.ofString " ()<>@,;:\\\"/[]?=") ⟨#[c]⟩ 0 (Str.ofString " ()<>@,;:\\\"/[]?=").length 1).isEmpty = !spec c := by
  rw [← Bool.not_inj_iff, Bool.not_not, StrLaws.found_one, lit_specs]
  unfold spec
  rw [List.contains_eq_mem]
theorem occ_esc (c : Nat) : (occurrences (Str.ofString "\"\\") ⟨#[c]⟩ 0 (Str.ofString "\"\\").length 1).isEmpty = !decide (c = 34 ∨ c = 92) := by
  rw [← Bool.not_inj_iff, Bool.not_not, StrLaws.found_one, lit_markbar]
  simp
theorem hasSpec_snoc (l : List Int) (k : Nat) : hasSpec (KStt.txt (l ++ [(k : Int)])) = (hasSpec (KStt.txt l) || spec k) := by
  rw [KStt.txt_snoc]
  unfold hasSpec
  rw [Str.cps_append, Array.toList_append, List.any_append]
  simp
def escI (l : List Int) : Str := esc (KStt.txt l)
theorem escI_snoc (l : List Int) (k : Nat) : escI (l ++ [(k : Int)]) = escI l ++ (if k = 34 ∨ k = 92 then Str.ofString "\\" ++ ⟨#[k]⟩ else ⟨#[k]⟩) := by
  unfold escI
  rw [KStt.txt_snoc]
  apply str_ext
  unfold esc escL
  rw [Str.cps_append, Str.cps_append, Array.toList_append, Array.toList_append, List.flatMap_append]
  congr 1
  by_cases h : k = 34 ∨ k = 92
  · rw [if_pos h, lit_bar]; simp [h, Str.cps_append]
  · rw [if_neg h]; simp [h]
theorem escI_all (v : Str) : escI (KStt.codes v) = esc v := by unfold escI; rw [KStt.txt_codes]
theorem one_len (k : Nat) : (⟨#[k]⟩ : Str).length = 1 := rfl

/-- what holds between the turns of _law_marked's loop -/
theorem mk_start {q : Int} : (!q != 0) = (decide (q = 0) && !hasSpec (KStt.txt [])) ∧ Str.ofString "" = escI [] ∧ (Str.ofString "").length ≤ 2 * ([] : List Int).length := by
  refine ⟨?_, by decide +kernel, by decide +kernel⟩
  have : hasSpec (KStt.txt []) = false := rfl
  rw [this]
  by_cases h : q = 0 <;> simp [h]
section
variable {q : Int} {l : List Int} {k : Nat} {b : Bool} {e : Str}
theorem mk_len {x : Str} (h : (escI l).length ≤ 2 * l.length) (hx : x.length ≤ 2) : (escI l ++ x).length ≤ 2 * (l ++ [(k : Int)]).length := by
  rw [Str.length_append, List.length_append]
  simp only [List.length_cons, List.length_nil]
  omega
theorem mk_t1 (h1 : b = (decide (q = 0) && !hasSpec (KStt.txt l))) (h2 : e = escI l) (h3 : e.length ≤ 2 * l.length)
    (hs : (occurrences (Str.ofString " ()<>@,;:\\\"/[]?=") ⟨#[k]⟩ 0 (Str.ofString " ()<>@,;:\\\"/[]?=").length 1).isEmpty = true) (he : (occurrences (Str.ofString "\"\\") ⟨#[k]⟩ 0 (Str.ofString "\"\\").length 1).isEmpty = true) :
    b = (decide (q = 0) && !hasSpec (KStt.txt (l ++ [(k : Int)]))) ∧ e ++ ⟨#[k]⟩ = escI (l ++ [(k : Int)]) ∧ (e ++ ⟨#[k]⟩).length ≤ 2 * (l ++ [(k : Int)]).length := by
  subst h2
  rw [occ_spec] at hs
  rw [occ_esc] at he
  refine ⟨?_, ?_, mk_len h3 (by rw [one_len]; decide)⟩
  · rw [hasSpec_snoc, h1]
    rw [Bool.not_eq_true'] at hs
    rw [hs, Bool.or_false]
  · rw [escI_snoc, if_neg (by simpa using he)]
theorem mk_t2 (h1 : b = (decide (q = 0) && !hasSpec (KStt.txt l))) (h2 : e = escI l) (h3 : e.length ≤ 2 * l.length)
    (hs : (occurrences (Str.ofString " ()<>@,;:\\\"/[]?=") ⟨#[k]⟩ 0 (Str.ofString " ()<>@,;:\\\"/[]?=").length 1).isEmpty = true) (he : (occurrences (Str.ofString "\"\\") ⟨#[k]⟩ 0 (Str.ofString "\"\\").length 1).isEmpty = false) :
    b = (decide (q = 0) && !hasSpec (KStt.txt (l ++ [(k : Int)]))) ∧ e ++ Str.ofString "\\" ++ ⟨#[k]⟩ = escI (l ++ [(k : Int)]) ∧ (e ++ Str.ofString "\\" ++ ⟨#[k]⟩).length ≤ 2 * (l ++ [(k : Int)]).length := by
  subst h2
  rw [occ_spec] at hs
  rw [occ_esc] at he
  rw [Str.append_assoc]
  refine ⟨?_, ?_, mk_len h3 (by rw [Str.length_append, one_len, lit_bar, one_len]; decide)⟩
  · rw [hasSpec_snoc, h1]
    rw [Bool.not_eq_true'] at hs
    rw [hs, Bool.or_false]
  · rw [escI_snoc, if_pos (by rw [Bool.not_eq_false', decide_eq_true_eq] at he; exact he)]
theorem mk_t3 (h2 : e = escI l) (h3 : e.length ≤ 2 * l.length)
    (hs : (occurrences (Str.ofString " ()<>@,;:\\\"/[]?=") ⟨#[k]⟩ 0 (Str.ofString " ()<>@,;:\\\"/[]?=").length 1).isEmpty = false) (he : (occurrences (Str.ofString "\"\\") ⟨#[k]⟩ 0 (Str.ofString "\"\\").length 1).isEmpty = true) :
    false = (decide (q = 0) && !hasSpec (KStt.txt (l ++ [(k : Int)]))) ∧ e ++ ⟨#[k]⟩ = escI (l ++ [(k : Int)]) ∧ (e ++ ⟨#[k]⟩).length ≤ 2 * (l ++ [(k : Int)]).length := by
  subst h2
  rw [occ_spec] at hs
  rw [occ_esc] at he
  refine ⟨?_, ?_, mk_len h3 (by rw [one_len]; decide)⟩
  · rw [hasSpec_snoc]
    rw [Bool.not_eq_false'] at hs
    rw [hs, Bool.or_true, Bool.not_true, Bool.and_false]
  · rw [escI_snoc, if_neg (by simpa using he)]
theorem mk_t4 (h2 : e = escI l) (h3 : e.length ≤ 2 * l.length)
    (hs : (occurrences (Str.ofString " ()<>@,;:\\\"/[]?=") ⟨#[k]⟩ 0 (Str.ofString " ()<>@,;:\\\"/[]?=").length 1).isEmpty = false) (he : (occurrences (Str.ofString "\"\\") ⟨#[k]⟩ 0 (Str.ofString "\"\\").length 1).isEmpty = false) :
    false = (decide (q = 0) && !hasSpec (KStt.txt (l ++ [(k : Int)]))) ∧ e ++ Str.ofString "\\" ++ ⟨#[k]⟩ = escI (l ++ [(k : Int)]) ∧ (e ++ Str.ofString "\\" ++ ⟨#[k]⟩).length ≤ 2 * (l ++ [(k : Int)]).length := by
  subst h2
  rw [occ_spec] at hs
  rw [occ_esc] at he
  rw [Str.append_assoc]
  refine ⟨?_, ?_, mk_len h3 (by rw [Str.length_append, one_len, lit_bar, one_len]; decide)⟩
  · rw [hasSpec_snoc]
    rw [Bool.not_eq_false'] at hs
    rw [hs, Bool.or_true, Bool.not_true, Bool.and_false]
  · rw [escI_snoc, if_pos (by rw [Bool.not_eq_false', decide_eq_true_eq] at he; exact he)]
variable {n v : Str}
theorem ne_of {v : Str} (h : (v == Str.ofString "") = false) : ¬ v.length = 0 := by
  intro q
  have : v = Str.ofString "" := by
    apply str_ext
    rw [show (Str.ofString "").cps.toList = [] from by decide +kernel]
    simpa [Str.length] using q
  rw [this] at h
  simp at h
theorem mk_e0 {c : Bool} (h : (v == Str.ofString "") = true) : n = fmt n v c := by
  have : v = Str.ofString "" := eq_of_beq h
  unfold fmt
  rw [if_pos (by rw [this]; decide +kernel)]
theorem mk_e1 (h : (v == Str.ofString "") = false) (h1 : b = (decide (q = 0) && !hasSpec (KStt.txt (KStt.codes v)))) (hb : b = true) : n ++ Str.ofString "=" ++ v = fmt n v (decide (q ≠ 0)) := by
  unfold fmt
  rw [KStt.txt_codes] at h1
  subst hb
  rw [if_neg (ne_of h), if_neg]
  have h2 := h1.symm
  simp only [Bool.and_eq_true, decide_eq_true_eq, Bool.not_eq_true'] at h2
  simp [h2]
theorem mk_e2 (h : (v == Str.ofString "") = false) (h1 : b = (decide (q = 0) && !hasSpec (KStt.txt (KStt.codes v)))) (h2 : e = escI (KStt.codes v)) (hb : b = false) :
    n ++ Str.ofString "=\"" ++ e ++ Str.ofString "\"" = fmt n v (decide (q ≠ 0)) := by
  unfold fmt
  rw [KStt.txt_codes] at h1
  subst hb h2
  rw [escI_all, if_neg (ne_of h), if_pos]
  have h2 := h1.symm
  by_cases hq : q = 0
  · simp [hq] at h2 ⊢; exact h2
  · simp [hq]
end
end Mine
end
section
theorem Mine.rsB2 : True := by w_top off; exact True.intro
open PySem PySem.W PyProof.Rows
set_option maxRecDepth 100000
set_option maxHeartbeats 8000000
set_option linter.unusedVariables false
namespace Mine
local macro_rules | `(tactic| walk_at "mine enter") => `(tactic| (refine' code_def ?k1 ?k2 ?k3 ?k4 ?k5 ?kA ?kF ?kK ?k6 ?k7 ?k8 ?k9 ?kB ?_ ?c2 ?c3 ?c4 ?c5; (case kA => exact rfl); (case kF => exact rfl); (case kK => assumption); (case k1 => k_asm); (case k2 => k_asm); (case k3 => k_asm); (case k4 => k_asm); (case k5 => k_asm); (case k6 => k_is); (case k7 => k_is); (case k8 => ktr_room); (case k9 => first | exact BindsTo.of_eq rfl | exact binds_K (by k_in) rfl (by k_is) rfl rfl rfl); (case c5 => decide); (case kB => exact locs rfl); (case c2 => exact rfl); (case c3 => exact rfl); (case c4 => exact rfl); k_whole; intro g' L' h' FG' F' N' B' X' T'; (try dsimp only); (try k_lift B'); (try k_fold)))
local macro_rules | `(tactic| walk_at "execs cons") => `(tactic| refine wpAny_execs_cons ?_)
local macro_rules | `(tactic| walk_at "getMethod ref") => `(tactic| (k_here; k_dflt (refine' getMethod_search ?k1 ?k2 ?_; (case k1 => k_asm); (case k2 => k_asm); k_whole)))
local macro_rules | `(tactic| walk_at "call builtin:re.Pattern.search") => `(tactic| (k_here; k_dflt (refine' search_call ?k1 ?k2 ?k3 ?k4 ?_ ?_; (case k1 => k_asm); (case k2 => k_asm); (case k3 => k_asm); (case k4 => omega); (focus (first | (intro hs; done) | intro hs)); all_goals skip)))
local macro_rules | `(tactic| walk_at "truthy ref") => `(tactic| (k_here; k_dflt (refine' truthy_match ?k1 ?k2 ?_; (case k1 => k_asm); (case k2 => k_mem); k_whole)))
local macro_rules | `(tactic| walk_at "call builtin:str.replace") => `(tactic| (k_here; k_dflt (refine' replaceT ?a ?b ?c ?d ?e ?_; (case a => first | exact Nat.succ_ne_zero _ | exact tok_ne (by assumption)); (case b => exact Nat.succ_ne_zero _); (case c => exact tok_self); (case d => decide +kernel); (case e => exact fits_rep (by first | omega | exact Nat.le_trans (replace_len _) (by omega)) (by decide +kernel)); k_whole; intro t9 k9 hk9; (try dsimp only at hk9))))
local macro_rules | `(tactic| walk_at "call builtin:str.replace") => `(tactic| (k_here; k_dflt (refine' replaceT2 ?a ?b ?c ?e ?_; (case a => first | exact Nat.succ_ne_zero _ | exact tok_ne (by assumption)); (case b => exact Nat.succ_ne_zero _); (case c => exact tok_self); (case e => omega); k_whole; intro e9 t9 k9 he9 hl9 hk9)))
section
variable {w : World} {p : Program} {loose : List Str} {mean : ExcName → Option Value} {mg mb : Str → Option Value} {dp un : Nat} {gd : Option (List Code)} {cn : Str} {cs : Scope} {a : Addr} {ccd : Value} {cl : List (Str × Addr)} {outer : List Env} {A₀ : Around} {base h₀ : Heap} {L : Addr} {m : Str → Option Value} {news : List (Addr × Obj)} {s : Shared} {Q E : Value → Shared → Prop}
theorem c_fmt3 {n v : Str} {q : Int} {t t2 t3 : Tok} (B : Below A₀ base outer h₀) (F : Fr h₀ L s.heap m) (X : (hd.heap_39 w.params).In h₀) (N : News h₀ L s.heap news) (T : Top p loose mean mg mb h₀) (hk : cs.kind = .function)
  (hdp : dp + 1 < recursionLimit) (hun : un + 8 < cLine) (hl1 : n.length ≤ 3) (hl2 : v.length ≤ 10000)
  (hret : ∀ (t : Tok) (h' : Heap) (tk' : Nat), Fr h₀ L h' m → News h₀ L h' news → Q (.str (fmt n v (decide (q ≠ 0))) t) { s with heap := h', toks := tk' }) :
  wpAny (model PySem.Challenge.rw_ny0110_01.row.prog w) (ktrTop dp un gd cn cs L a ccd cl outer) (call (.ref 44) [.str n t, .str v t2, .int q t3]) Q E s := by
  revert X; k_fill; intro X
  refine wpAny_call ?_
  k_dflt (walk_at "mine enter")
  k_steps
  all_goals (refine' cb_retS (Q := Q) hret ?e1 ?e2 ?e3; (case e2 => k_asm); (case e3 => first | k_asm | exact cb_drop (by assumption) (fun _ h => .tail _ h)); (case e1 => with_reducible first | exact fmt_a (by assumption) (by assumption) (by assumption) | exact fmt_b (by assumption) (by assumption) (by assumption) | exact fmt_c (by assumption) (by assumption) (by assumption) | exact fmt_e (by assumption) (by assumption) | exact fmt_d (by omega) | rfl))
theorem c_fmt2 {n v : Str} {t t2 : Tok} (B : Below A₀ base outer h₀) (F : Fr h₀ L s.heap m) (X : (hd.heap_39 w.params).In h₀) (N : News h₀ L s.heap news) (T : Top p loose mean mg mb h₀) (hk : cs.kind = .function)
  (hdp : dp + 1 < recursionLimit) (hun : un + 8 < cLine) (hl1 : n.length ≤ 3) (hl2 : v.length ≤ 10000)
  (hret : ∀ (t : Tok) (h' : Heap) (tk' : Nat), Fr h₀ L h' m → News h₀ L h' news → Q (.str (fmt n v true) t) { s with heap := h', toks := tk' }) :
  wpAny (model PySem.Challenge.rw_ny0110_01.row.prog w) (ktrTop dp un gd cn cs L a ccd cl outer) (call (.ref 44) [.str n t, .str v t2]) Q E s := by
  revert X; k_fill; intro X
  refine wpAny_call ?_
  k_dflt (walk_at "mine enter")
  k_steps
  all_goals (refine' cb_retS (Q := Q) hret ?e1 ?e2 ?e3; (case e2 => k_asm); (case e3 => first | k_asm | exact cb_drop (by assumption) (fun _ h => .tail _ h)); (case e1 => with_reducible first | exact fmt_a (by assumption) (by assumption) (by assumption) | exact fmt_b (by assumption) (by assumption) (by assumption) | exact fmt_c (by assumption) (by assumption) (by assumption) | exact fmt_e (by assumption) (by assumption) | exact fmt_d (by omega) | rfl))
theorem c_fmt1 {n : Str} {t : Tok} (B : Below A₀ base outer h₀) (F : Fr h₀ L s.heap m) (X : (hd.heap_39 w.params).In h₀) (N : News h₀ L s.heap news) (T : Top p loose mean mg mb h₀) (hk : cs.kind = .function)
  (hdp : dp + 1 < recursionLimit) (hun : un + 8 < cLine) (hl1 : n.length ≤ 3) 
  (hret : ∀ (t : Tok) (h' : Heap) (tk' : Nat), Fr h₀ L h' m → News h₀ L h' news → Q (.str (n) t) { s with heap := h', toks := tk' }) :
  wpAny (model PySem.Challenge.rw_ny0110_01.row.prog w) (ktrTop dp un gd cn cs L a ccd cl outer) (call (.ref 44) [.str n t]) Q E s := by
  revert X; k_fill; intro X
  refine wpAny_call ?_
  k_dflt (walk_at "mine enter")
  k_steps
  all_goals (refine' cb_retS (Q := Q) hret ?e1 ?e2 ?e3; (case e2 => k_asm); (case e3 => first | k_asm | exact cb_drop (by assumption) (fun _ h => .tail _ h)); (case e1 => with_reducible first | exact fmt_a (by assumption) (by assumption) (by assumption) | exact fmt_b (by assumption) (by assumption) (by assumption) | exact fmt_c (by assumption) (by assumption) (by assumption) | exact fmt_e (by assumption) (by assumption) | exact fmt_d (by omega) | rfl))
end
end Mine
end
section
theorem Mine.rsB3 : True := by w_top off; exact True.intro
open PySem PySem.W PyProof.Rows
set_option maxRecDepth 100000
set_option maxHeartbeats 8000000
set_option linter.unusedVariables false
namespace Mine
section
variable {w : World} {p : Program} {loose : List Str} {mean : ExcName → Option Value} {mg mb : Str → Option Value} {dp un : Nat} {gd : Option (List Code)} {cn : Str} {cs : Scope} {a : Addr} {ccd : Value} {cl : List (Str × Addr)} {outer : List Env} {A₀ : Around} {base h₀ : Heap} {L : Addr} {m : Str → Option Value} {news : List (Addr × Obj)} {s : Shared} {Q E : Value → Shared → Prop}
theorem c_marked {n v : Str} {q : Int} {t t2 t3 : Tok} (B : Below A₀ base outer h₀) (F : Fr h₀ L s.heap m) (X : (hd.heap_39 w.params).In h₀) (N : News h₀ L s.heap news) (T : Top p loose mean mg mb h₀) (hk : cs.kind = .function)
  (hdp : dp + 1 < recursionLimit) (hun : un + 8 < cLine) (hl1 : n.length ≤ 3) (hl2 : v.length ≤ 10000)
  (hret : ∀ (t : Tok) (h' : Heap) (tk' : Nat), Fr h₀ L h' m → News h₀ L h' news → Q (.str (fmt n v (decide (q ≠ 0))) t) { s with heap := h', toks := tk' }) :
  wpAny (model PySem.Challenge.rw_ny0110_01.row.prog w) (ktrTop dp un gd cn cs L a ccd cl outer) (call (.ref 93) [.str n t, .str v t2, .int q t3]) Q E s := by
  revert X; k_fill; intro X
  (k_with "pyIter str" => k_state (fun (pre : List Int) bare within => bare = (decide (q = 0) && !hasSpec (KStt.txt pre)) ∧ within = escI pre ∧ within.length ≤ 2 * pre.length) "bare" "within")
  (k_with "state" => (with_reducible first | exact mk_start | exact mk_t1 (by assumption) (by assumption) (by assumption) (by assumption) (by assumption) | exact mk_t2 (by assumption) (by assumption) (by assumption) (by assumption) (by assumption) | exact mk_t3 (by assumption) (by assumption) (by assumption) (by assumption) | exact mk_t4 (by assumption) (by assumption) (by assumption) (by assumption)))
  refine wpAny_call ?_
  k_dflt cell_enter
  k_steps
  all_goals (refine' cb_retS (Q := Q) hret ?e1 ?e2 ?e3; (case e2 => k_asm); (case e3 => k_asm); (case e1 => with_reducible first | exact mk_e0 (by assumption) | exact mk_e1 (by assumption) (by assumption) (by assumption) | exact mk_e2 (by assumption) (by assumption) (by assumption) (by assumption)))
end
end Mine
end
section
theorem Mine.rsB1 : True := by w_top off; exact True.intro
open PySem PySem.W PyProof.Rows
set_option maxRecDepth 100000
set_option maxHeartbeats 8000000
set_option linter.unusedVariables false
namespace Mine
/-- what _law_sign gives -/
def signOf (x : Int) : Str := if x.fmod 4 < 2 then Txt.item (Str.ofString "\"\\") (x.fmod 4) else if x.fmod 4 = 2 then Txt.item (Str.ofString " ()<>@,;:\\\"/[]?=") ((x.fdiv 4).fmod 16) else Txt.item (Str.ofString "O-%é") ((x.fdiv 4).fmod 4)
theorem sg_a {x : Int} (h : x.fmod 4 < 2) : Txt.item (Str.ofString "\"\\") (x.fmod 4) = signOf x := by unfold signOf; rw [if_pos h]
theorem sg_b {x : Int} (h : ¬ x.fmod 4 < 2) (h2 : x.fmod 4 = 2) : Txt.item (Str.ofString " ()<>@,;:\\\"/[]?=") ((x.fdiv 4).fmod 16) = signOf x := by unfold signOf; rw [if_neg h, if_pos h2]
theorem sg_c {x : Int} (h : ¬ x.fmod 4 < 2) (h2 : ¬ x.fmod 4 = 2) : Txt.item (Str.ofString "O-%é") ((x.fdiv 4).fmod 4) = signOf x := by unfold signOf; rw [if_neg h, if_neg h2]
theorem signOf_len (x : Int) : (signOf x).length = 1 := by
  unfold signOf
  split
  · rfl
  · split <;> rfl
section
variable {w : World} {p : Program} {loose : List Str} {mean : ExcName → Option Value} {mg mb : Str → Option Value} {dp un : Nat} {gd : Option (List Code)} {cn : Str} {cs : Scope} {a : Addr} {ccd : Value} {cl : List (Str × Addr)} {outer : List Env} {A₀ : Around} {base h₀ : Heap} {L : Addr} {m : Str → Option Value} {news : List (Addr × Obj)} {s : Shared} {Q E : Value → Shared → Prop}
theorem c_sign {x : Int} {t : Tok} (B : Below A₀ base outer h₀) (F : Fr h₀ L s.heap m) (X : (hd.heap_39 w.params).In h₀) (N : News h₀ L s.heap news) (T : Top p loose mean mg mb h₀) (hk : cs.kind = .function)
  (hdp : dp + 1 < recursionLimit) (hun : un + 8 < cLine)
  (hret : ∀ (t : Tok) (h' : Heap) (tk' : Nat), Fr h₀ L h' m → News h₀ L h' news → Q (.str (signOf x) t) { s with heap := h', toks := tk' }) :
  wpAny (model PySem.Challenge.rw_ny0110_01.row.prog w) (ktrTop dp un gd cn cs L a ccd cl outer) (call (.ref 86) [.int x t]) Q E s := by
  revert X; k_fill; intro X
  refine wpAny_call ?_
  k_dflt cell_enter
  k_steps
  all_goals (refine' cb_retS (Q := Q) hret ?e1 ?e2 ?e3; (case e2 => k_asm); (case e3 => k_asm); (case e1 => with_reducible first | exact sg_a (by omega) | exact sg_b (by omega) (by omega) | exact sg_c (by omega) (by omega)))
/-- marks asked for -/
theorem c_marked1 {n v : Str} {t t2 t3 : Tok} (B : Below A₀ base outer h₀) (F : Fr h₀ L s.heap m) (X : (hd.heap_39 w.params).In h₀) (N : News h₀ L s.heap news) (T : Top p loose mean mg mb h₀) (hk : cs.kind = .function)
  (hdp : dp + 1 < recursionLimit) (hun : un + 8 < cLine) (hl1 : n.length ≤ 3) (hl2 : v.length ≤ 10000)
  (hret : ∀ (t : Tok) (h' : Heap) (tk' : Nat), Fr h₀ L h' m → News h₀ L h' news → Q (.str (fmt n v true) t) { s with heap := h', toks := tk' }) :
  wpAny (model PySem.Challenge.rw_ny0110_01.row.prog w) (ktrTop dp un gd cn cs L a ccd cl outer) (call (.ref 93) [.str n t, .str v t2, .int 1 t3]) Q E s :=
  c_marked B F X N T hk hdp hun hl1 hl2 (by rw [show decide ((1 : Int) ≠ 0) = true from by decide]; exact hret)
theorem c_fmt0 {n v : Str} {t t2 t3 : Tok} (B : Below A₀ base outer h₀) (F : Fr h₀ L s.heap m) (X : (hd.heap_39 w.params).In h₀) (N : News h₀ L s.heap news) (T : Top p loose mean mg mb h₀) (hk : cs.kind = .function)
  (hdp : dp + 1 < recursionLimit) (hun : un + 8 < cLine) (hl1 : n.length ≤ 3) (hl2 : v.length ≤ 10000) (hs : hasSpec v = true)
  (hret : ∀ (t : Tok) (h' : Heap) (tk' : Nat), Fr h₀ L h' m → News h₀ L h' news → Q (.str (fmt n v true) t) { s with heap := h', toks := tk' }) :
  wpAny (model PySem.Challenge.rw_ny0110_01.row.prog w) (ktrTop dp un gd cn cs L a ccd cl outer) (call (.ref 44) [.str n t, .str v t2, .int 0 t3]) Q E s :=
  c_fmt3 B F X N T hk hdp hun hl1 hl2 (by rw [show fmt n v (decide ((0 : Int) ≠ 0)) = fmt n v true from by unfold fmt; rw [hs]; simp]; exact hret)
end
end Mine
end
section
theorem Mine.rsM1 : True := by w_top off; exact True.intro
open PySem PySem.W PyProof.Rows
set_option maxRecDepth 100000
set_option maxHeartbeats 8000000
set_option linter.unusedVariables false
namespace Mine
open PySem.Builtin.Int (intBits)
def Bnd (a : Int) (k : Nat) : Prop := a.natAbs < 2 ^ k
theorem Bnd.bits {a : Int} {k : Nat} (h : Bnd a k) : intBits a ≤ k := by
  unfold intBits
  unfold Bnd at h
  by_cases h0 : a = 0
  · simp [h0]
  · rw [if_neg (by simpa using h0)]
    have h1 : a.natAbs ≠ 0 := by omega
    exact (Nat.log2_lt h1).mpr h
theorem Bnd.mono {a : Int} {j k : Nat} (h : Bnd a j) (hk : j ≤ k) : Bnd a k := Nat.lt_of_lt_of_le h (Nat.pow_le_pow_right (by decide) hk)
theorem Bnd.of_bits {a : Int} {k : Nat} (h : intBits a ≤ k) : Bnd a k := Bnd.mono (natAbs_lt_pow_bits a) h
theorem Bnd.mul {a b : Int} {j k : Nat} (h : Bnd a j) (h2 : Bnd b k) : Bnd (a * b) (j + k) := by
  unfold Bnd at *
  rw [Int.natAbs_mul, Nat.pow_add]
  exact Nat.mul_lt_mul'' h h2
theorem Bnd.add {a b : Int} {k : Nat} (h : Bnd a k) (h2 : Bnd b k) : Bnd (a + b) (k + 1) := by
  unfold Bnd at *
  rw [Nat.pow_succ]
  have := Int.natAbs_add_le a b
  omega
theorem Bnd.neg {a : Int} {k : Nat} (h : Bnd a k) : Bnd (-a) k := by unfold Bnd at *; rwa [Int.natAbs_neg]
theorem Bnd.sub {a b : Int} {k : Nat} (h : Bnd a k) (h2 : Bnd b k) : Bnd (a - b) (k + 1) := by
  rw [Int.sub_eq_add_neg]; exact Bnd.add h h2.neg
theorem Bnd.small {a : Int} (h : -1000000000 ≤ a) (h2 : a ≤ 1000000000) : Bnd a 30 := by
  unfold Bnd
  have : (2 : Nat) ^ 30 = 1073741824 := by decide
  omega
theorem Bnd.mulOk {a b : Int} {j k : Nat} (h : Bnd a j) (h2 : Bnd b k) (hj : j ≤ 1048576) (hk : k ≤ 1048576) : IntMulOk a b :=
  IntMulOk.of_bits (Nat.le_trans h.bits (by have : (2:Nat)^20 = 1048576 := by decide
                                            omega)) (Nat.le_trans h2.bits (by have : (2:Nat)^20 = 1048576 := by decide
                                                                              omega))

theorem front_mul {f s q : Int} (hf : -1000000 ≤ f) (hf2 : f ≤ 1000000) (hs : -1000000 ≤ s) (hs2 : s ≤ 1000000) (hq : Bnd q 2100) : IntMulOk (f * q + s - 4 * f) q := by
  have b1 : Bnd (f * q) 2130 := Bnd.mono (Bnd.mul (Bnd.small (by omega) (by omega)) hq) (by decide)
  have b2 : Bnd s 2130 := Bnd.mono (Bnd.small (by omega) (by omega)) (by decide)
  have b3 : Bnd (4 * f) 2131 := Bnd.mono (Bnd.small (by omega) (by omega)) (by decide)
  exact Bnd.mulOk (Bnd.sub (Bnd.add b1 b2) b3) hq (by decide) (by decide)
theorem front_mul1 {f q : Int} (hf : -1000000 ≤ f) (hf2 : f ≤ 1000000) : IntMulOk f q :=
  IntMulOk.of_left (PySem.intBits_le_64 (by omega) (by omega))

/-- what _law_front gives -/
@[irreducible] def frontV (v n : Str) (q : Int) : Int :=
  let cb := Txt.count v (Str.ofString "\\"); let cm := Txt.count v (Str.ofString "\""); let nb := Txt.count n (Str.ofString "\\"); let nm := Txt.count n (Str.ofString "\"")
  let s0 := (v.length : Int) - cb + cb
  let s1 := (v.length : Int) - cb + n.length - nb + 3 + (2 * cb + cm + nb)
  let s2 := (v.length : Int) - cb + n.length - nb + 3 + n.length - nb + 3 + (2 * (2 * cb + cm + nb) + (cm + nm + 2) + nb)
  (s0 * q + s1 - 4 * s0) * q + s2 - 4 * s1 + 5 * s0

theorem Bnd.of_range {a : Int} {k : Nat} (h0 : 0 ≤ a) (h : a < 2 ^ k) : Bnd a k := by
  unfold Bnd
  have : ((2 ^ k : Nat) : Int) = 2 ^ k := by simp
  omega
theorem Bnd.le {a b : Int} {k : Nat} (h : Bnd b k) (h0 : 0 ≤ a) (hab : a ≤ b) : Bnd a k := by unfold Bnd at *; omega
theorem Bnd.fdiv {a b : Int} {k : Nat} (h : Bnd a k) (h0 : 0 ≤ a) (hb : 0 < b) : Bnd (a.fdiv b) k := by
  rw [Int.fdiv_eq_ediv_of_nonneg _ (Int.le_of_lt hb)]
  exact h.le (Int.ediv_nonneg h0 (Int.le_of_lt hb)) (Int.ediv_le_self _ h0)
theorem Bnd.fmod {a b : Int} {k : Nat} (h : Bnd a k) (h0 : 0 ≤ a) (hb : 0 < b) : Bnd (a.fmod b) k := by
  rw [Int.fmod_eq_emod_of_nonneg _ (Int.le_of_lt hb)]
  refine h.le (Int.emod_nonneg _ (by omega)) ?_
  have h1 := Int.emod_add_mul_ediv a b
  have h2 : 0 ≤ b * (a / b) := Int.mul_nonneg (Int.le_of_lt hb) (Int.ediv_nonneg h0 (Int.le_of_lt hb))
  omega
theorem Bnd.pow (k : Nat) : Bnd ((2 : Int) ^ k) (k + 1) := by
  refine Bnd.of_range (Int.le_of_lt (Int.pow_pos (by decide))) ?_
  rw [Int.pow_succ]
  have : (0 : Int) < 2 ^ k := Int.pow_pos (by decide)
  omega
theorem Bnd.shl {a n : Int} {k : Nat} (h : Bnd a k) (hk : k ≤ 1000000) (hn : n ≤ 1000000) : (intBits a : Int) + n ≤ 2 ^ 27 := by
  have := h.bits
  have e : (2 : Int) ^ 27 = 134217728 := by decide
  omega
theorem p2 (k : Nat) : (0 : Int) < 2 ^ k := Int.pow_pos (by decide)

theorem nat_or (r a k : Nat) (h : a < 2 ^ k) : 2 ^ k * r + a = 2 ^ k * r ||| a := Nat.two_pow_add_eq_or_of_lt h r
theorem cast_p2 (k : Nat) : ((2 ^ k : Nat) : Int) = 2 ^ k := by simp
/-- an or of what does not meet -/
theorem or_add {r a : Int} {k : Nat} (hr : 0 ≤ r) (ha : 0 ≤ a) (hk : a < 2 ^ k) : PySem.Builtin.bitOr (r * 2 ^ k) a = r * 2 ^ k + a := by
  obtain ⟨r', rfl⟩ := Int.eq_ofNat_of_zero_le hr
  obtain ⟨a', rfl⟩ := Int.eq_ofNat_of_zero_le ha
  have e1 : ((r' : Int) * 2 ^ k) = ((2 ^ k * r' : Nat) : Int) := by rw [Int.natCast_mul, cast_p2]; exact Int.mul_comm _ _
  have e2 : a' < 2 ^ k := by have := cast_p2 k; omega
  rw [e1, bitOr_and, bitAnd_pp (by omega) (by omega)]
  have h1 := nat_or r' a' k e2
  have h2 := nat_or_add_and (2 ^ k * r') a'
  have h3 : (((2 ^ k * r' : Nat) : Int)).toNat = 2 ^ k * r' := Int.toNat_natCast _
  have h4 : ((a' : Int)).toNat = a' := Int.toNat_natCast _
  rw [h3, h4]
  omega
/-- the low part by a xor -/
theorem xor_low {x : Int} {k : Nat} (hx : 0 ≤ x) : PySem.Builtin.bitXor x (x.fdiv (2 ^ k) * 2 ^ k) = x.fmod (2 ^ k) := by
  have hw := kbt_whole x k
  have hr := kbt_rest x k
  have hq : 0 ≤ x.fdiv (2 ^ k) := by
    rw [Int.fdiv_eq_ediv_of_nonneg _ (Int.le_of_lt (p2 k))]
    exact Int.ediv_nonneg hx (Int.le_of_lt (p2 k))
  generalize x.fdiv (2 ^ k) = u at *
  generalize x.fmod (2 ^ k) = l at *
  obtain ⟨u', rfl⟩ := Int.eq_ofNat_of_zero_le hq
  obtain ⟨l', rfl⟩ := Int.eq_ofNat_of_zero_le hr.1
  have e1 : ((u' : Int) * 2 ^ k) = ((2 ^ k * u' : Nat) : Int) := by rw [Int.natCast_mul, cast_p2]; exact Int.mul_comm _ _
  have e2 : l' < 2 ^ k := by have := cast_p2 k; omega
  rw [← hw, e1, bitXor_and, bitAnd_pp (by omega) (by omega)]
  have h1 := nat_or u' l' k e2
  have h3 : (((2 ^ k * u' : Nat) : Int)).toNat = 2 ^ k * u' := Int.toNat_natCast _
  have h4 : (((2 ^ k * u' : Nat) : Int) + (l' : Int)).toNat = 2 ^ k * u' + l' := by omega
  have h5 : (2 ^ k * u' + l') &&& (2 ^ k * u') = 2 ^ k * u' := by
    rw [h1]
    apply Nat.eq_of_testBit_eq
    intro i
    rw [Nat.testBit_and, Nat.testBit_or]
    cases (2 ^ k * u').testBit i <;> simp
  rw [h3, h4, h5]
  omega

/-! the division of three halves by two -/
section
variable {x a3 b b1 b2 : Int} {k : Nat}
theorem d3_s1 (hb1 : 0 < b1) (hb : b = b1 * 2 ^ k + b2) (ha3 : 0 ≤ a3) (ha3' : a3 < 2 ^ k) (hxb : x * 2 ^ k + a3 < b * 2 ^ k) (e : x.fdiv (2 ^ k) = b1) :
    (1 * 2 ^ k - 1) * b + (PySem.Builtin.bitOr ((x - b1 * 2 ^ k + b1) * 2 ^ k) a3 - (1 * 2 ^ k - 1) * b2) = x * 2 ^ k + a3 ∧
    PySem.Builtin.bitOr ((x - b1 * 2 ^ k + b1) * 2 ^ k) a3 - (1 * 2 ^ k - 1) * b2 < b := by
  have hw := kbt_whole x k
  have hr := kbt_rest x k
  rw [e] at hw
  rw [or_add (by omega) ha3 ha3']
  generalize (2 : Int) ^ k = P at *
  have h1 : (1 * P - 1) * b + ((x - b1 * P + b1) * P + a3 - (1 * P - 1) * b2) = x * P + a3 := by
    subst hb
    grind
  refine ⟨h1, ?_⟩
  have h2 : (1 * P - 1) * b = b * P - b := by grind
  omega
theorem d3_s2 (hb1 : 0 < b1) (hb1' : b1 < 2 ^ k) (hb2 : 0 ≤ b2) (hb : b = b1 * 2 ^ k + b2) (ha3 : 0 ≤ a3) (ha3' : a3 < 2 ^ k) (hx : 0 ≤ x) :
    x.fdiv b1 * b + (PySem.Builtin.bitOr (x.fmod b1 * 2 ^ k) a3 - x.fdiv b1 * b2) = x * 2 ^ k + a3 ∧
    PySem.Builtin.bitOr (x.fmod b1 * 2 ^ k) a3 - x.fdiv b1 * b2 < b := by
  have h0 : 0 ≤ x.fmod b1 := Int.fmod_nonneg_of_pos _ hb1
  have h1 : x.fmod b1 < b1 := Int.fmod_lt_of_pos _ hb1
  have h2 : b1 * x.fdiv b1 + x.fmod b1 = x := Int.mul_fdiv_add_fmod x b1
  have h3 : 0 ≤ x.fdiv b1 := by
    rw [Int.fdiv_eq_ediv_of_nonneg _ (Int.le_of_lt hb1)]
    exact Int.ediv_nonneg hx (Int.le_of_lt hb1)
  rw [or_add h0 ha3 ha3']
  generalize x.fdiv b1 = q at *
  generalize x.fmod b1 = r at *
  have hP := p2 k
  generalize (2 : Int) ^ k = P at *
  refine ⟨by subst hb; subst h2; grind, ?_⟩
  have h4 : 0 ≤ q * b2 := Int.mul_nonneg h3 hb2
  have h5 : r * P ≤ (b1 - 1) * P := Int.mul_le_mul_of_nonneg_right (by omega) (Int.le_of_lt hP)
  have h6 : (b1 - 1) * P = b1 * P - P := by grind
  omega
theorem d3_turn {q r A : Int} (h : q * b + r = A) (hr : r < 0) : (q - 1) * b + (r + b) = A ∧ r + b < b := by
  refine ⟨?_, by omega⟩
  have : (q - 1) * b = q * b - b := by grind
  omega
theorem d3_end {q r A : Int} (h : q * b + r = A) (h0 : ¬ r < 0) (h1 : r < b) : q = A.fdiv b ∧ r = A.fmod b := by
  have hb : 0 < b := by omega
  have := kbt_unique (a := A) (q := q) hb (by rw [Int.mul_comm]; omega) (by omega) h1
  rw [Int.fdiv_eq_ediv_of_nonneg _ (Int.le_of_lt hb), Int.fmod_eq_emod_of_nonneg _ (Int.le_of_lt hb)]
  exact ⟨this.1.symm, this.2.symm⟩
end

section
variable {x a3 b b1 b2 : Int} {k : Nat}
theorem d3_bx (hb1' : b1 < 2 ^ k) (hb2' : b2 < 2 ^ k) (hb : b = b1 * 2 ^ k + b2) (ha3 : 0 ≤ a3) (hx : 0 ≤ x) (hxb : x * 2 ^ k + a3 < b * 2 ^ k) : Bnd x (k + k) := by
  have hP := p2 k
  refine Bnd.of_range hx ?_
  rw [Int.pow_add]
  generalize (2 : Int) ^ k = P at *
  have h1 : x < b := by
    have : x * P < b * P := by omega
    exact Int.lt_of_mul_lt_mul_right this (Int.le_of_lt hP)
  have h2 : b1 * P ≤ (P - 1) * P := Int.mul_le_mul_of_nonneg_right (by omega) (Int.le_of_lt hP)
  have h3 : (P - 1) * P = P * P - P := by grind
  omega
theorem Bnd.log {a : Int} {k : Nat} (h : Bnd a k) (hk : k < 9000) : a.natAbs.log2 < 9000 := by
  by_cases h0 : a.natAbs = 0
  · rw [h0]; decide
  · exact Nat.lt_trans ((Nat.log2_lt h0).mpr h) hk
theorem Bnd.pred (k : Nat) : Bnd (1 * 2 ^ k - 1) k := by
  have := p2 k
  exact Bnd.of_range (by omega) (by omega)
theorem toNat_le {n : Int} {k : Nat} (h : n ≤ k) : n.toNat ≤ k := by omega
end
end Mine
end
section
theorem Mine.rsB4 : True := by w_top off; exact True.intro
open PySem PySem.W PyProof.Rows
set_option maxRecDepth 100000
set_option maxHeartbeats 8000000
set_option linter.unusedVariables false
namespace Mine
theorem unr_own {h₀ : Heap} {L I : Addr} {it : Obj} {rest : (Str → Option Value) → List (Addr × Obj) → Prop} {s₁ : Shared} {h' : Heap} {tk : Nat} {m' : Str → Option Value} {news' : List (Addr × Obj)} (F : Fr h₀ L h' m') (N : News h₀ L h' ((I, it) :: news'))
    (off : AllLt I news') (r : rest m' news') : UnrEnd h₀ L s₁ I it rest { s₁ with heap := h', toks := tk } :=
  UnrEnd.intro F N news' (fun _ hp => hp) (fun p hp => Nat.ne_of_lt (ktn_ltOf off p hp)) r
local macro_rules | `(tactic| walk_at "UnrEnd") => `(tactic| (k_dflt (refine' unr_own ?a ?b ?c ?_; (case a => k_asm); (case b => k_asm); (case c => assumption))))
local macro_rules | `(tactic| walk_at "binaryOp Mult int int") => `(tactic| (k_dflt (refine' mul_int ?_ ?hm; (case hm => first | exact front_mul (by omega) (by omega) (by omega) (by omega) (by assumption) | exact front_mul1 (by omega) (by omega)))))
section
variable {w : World} {p : Program} {loose : List Str} {mean : ExcName → Option Value} {mg mb : Str → Option Value} {dp un : Nat} {gd : Option (List Code)} {cn : Str} {cs : Scope} {a : Addr} {ccd : Value} {cl : List (Str × Addr)} {outer : List Env} {A₀ : Around} {base h₀ : Heap} {L : Addr} {m : Str → Option Value} {news : List (Addr × Obj)} {s : Shared} {Q E : Value → Shared → Prop}
theorem c_front {v n : Str} {q : Int} {t t2 t3 : Tok} (B : Below A₀ base outer h₀) (F : Fr h₀ L s.heap m) (X : (hd.heap_39 w.params).In h₀) (N : News h₀ L s.heap news) (T : Top p loose mean mg mb h₀) (hk : cs.kind = .function)
  (hdp : dp + 1 < recursionLimit) (hun : un + 8 < cLine) (hl1 : n.length ≤ 3) (hl2 : v.length ≤ 10000)
  (hq : Bnd q 2100)
  (hret : ∀ (t : Tok) (h' : Heap) (tk' : Nat), Fr h₀ L h' m → News h₀ L h' news → Q (.int (frontV v n q) t) { s with heap := h', toks := tk' }) :
  wpAny (model PySem.Challenge.rw_ny0110_01.row.prog w) (ktrTop dp un gd cn cs L a ccd cl outer) (call (.ref 100) [.str v t, .str n t2, .int q t3]) Q E s := by
  revert X; k_fill; intro X
  have c1 := count_bounds v (Str.ofString "\\")
  have c2 := count_bounds v (Str.ofString "\"")
  have c3 := count_bounds n (Str.ofString "\\")
  have c4 := count_bounds n (Str.ofString "\"")
  refine wpAny_call ?_
  k_dflt cell_enter
  k_steps
  all_goals (refine' cb_retI (Q := Q) hret ?e1 ?e2 ?e3; (case e2 => k_asm); (case e3 => first | k_asm | exact cb_drop (by assumption) (fun _ h => .tail _ h)| exact cb_drop (by assumption) (fun _ h => .tail _ (.tail _ h))); (case e1 => (unfold frontV; with_reducible rfl)))
end
end Mine
end
section
theorem Mine.rsB5 : True := by w_top off; exact True.intro
open PySem PySem.W PyProof.Rows
set_option maxRecDepth 100000
set_option maxHeartbeats 8000000
set_option linter.unusedVariables false
namespace Mine
open PySem.Builtin.Int (intBits)
abbrev tup2 (x y : Int) (t1 t2 : Tok) (c : Nat) : Obj := { cls := .type "tuple", data := .seq #[.int x t1, .int y t2] c }
theorem allLt_size {h₀ h : Heap} {L : Addr} {news : List (Addr × Obj)} (N : News h₀ L h news) : AllLt h.objs.size news := allLt_of fun p hp => Heap.lt_size (N p hp).1
theorem divmod_own {prog : Program} {w : World} {A : Around} {E : Value → Shared → Prop} {s : Shared} {a b : Int} {t u : Tok} {Q : Value → Shared → Prop} {h₀ : Heap} {L : Addr} {m : Str → Option Value} {news : List (Addr × Obj)} (F : Fr h₀ L s.heap m) (N : News h₀ L s.heap news) (hb : b ≠ 0)
    (hp : Builtin.divisionGoesByPylong a b = false) (h : ∀ D t1 t2 h', Fr h₀ L h' m → News h₀ L h' ((D, tup2 (a.fdiv b) (a.fmod b) t1 t2 0) :: news) → AllLt D news → Q (.ref D) { s with toks := s.toks + 1 + 1, heap := h' }) :
    wpAny (model prog w) A (call (.builtin "divmod") [.int a t, .int b u]) Q E s :=
  divmod_N F N hb (fun h' F' N' => h _ _ _ h' F' N' (allLt_size N)) (Or.inl hp)
local macro_rules | `(tactic| walk_at "call builtin:divmod") => `(tactic| (k_dflt (refine' divmod_own ?a ?b ?c ?d ?_; (case a => k_asm); (case b => k_asm); (case c => omega); (case d => assumption); intro D9 t9 u9 h' F' N' l9)))
section
variable {w : World} {p : Program} {loose : List Str} {mean : ExcName → Option Value} {mg mb : Str → Option Value} {dp un : Nat} {gd : Option (List Code)} {cn : Str} {cs : Scope} {a : Addr} {ccd : Value} {cl : List (Str × Addr)} {outer : List Env} {A₀ : Around} {base h₀ : Heap} {L : Addr} {m : Str → Option Value} {news : List (Addr × Obj)} {s : Shared} {Q E : Value → Shared → Prop}
theorem c_div0 {x b n : Int} {t t2 t3 : Tok} (B : Below A₀ base outer h₀) (F : Fr h₀ L s.heap m) (X : (hd.heap_39 w.params).In h₀) (N : News h₀ L s.heap news) (T : Top p loose mean mg mb h₀) (hk : cs.kind = .function)
  (hdp : dp + 1 < recursionLimit) (hun : un + 8 < cLine) (hb : 0 < b) (hx : (intBits x : Int) - n ≤ 4000) (hb2 : b.natAbs.log2 < 9000)
  (hret : ∀ (D : Addr) (t1 t2 : Tok) (c : Nat) (h' : Heap) (tk' : Nat), Fr h₀ L h' m → News h₀ L h' ((D, tup2 (x.fdiv b) (x.fmod b) t1 t2 c) :: news) → AllLt D news → Q (.ref D) { s with heap := h', toks := tk' }) :
  wpAny (model PySem.Challenge.rw_ny0110_01.row.prog w) (ktrTop dp un gd cn cs L a ccd cl outer) (call (.ref 51) [.int x t, .int b t2, .int n t3]) Q E s := by
  revert X; k_fill; intro X
  have hpy : Builtin.divisionGoesByPylong x b = false := PyProof.noPylong_of_log2 hb2
  refine wpAny_call ?_
  k_dflt cell_enter
  k_steps
  all_goals (exact hret _ _ _ _ _ _ (by k_asm) (by k_asm) (by assumption))

theorem tup_end {D D1 : Addr} {q r A b : Int} {o1 : Obj} {t1 t2 : Tok} {c : Nat} {h' : Heap} {tk' : Nat} (hret : ∀ (D : Addr) (t1 t2 : Tok) (c : Nat) (h' : Heap) (tk' : Nat), Fr h₀ L h' m → News h₀ L h' ((D, tup2 (A.fdiv b) (A.fmod b) t1 t2 c) :: news) → AllLt D news → Q (.ref D) { s with heap := h', toks := tk' })
    (h : q * b + r = A) (h0 : ¬ r < 0) (h1 : r < b) (F : Fr h₀ L h' m) (N : News h₀ L h' ((D, tup2 q r t1 t2 c) :: (D1, o1) :: news)) (l : D1 < D ∧ AllLt D news) : Q (.ref D) { s with heap := h', toks := tk' } := by
  obtain ⟨rfl, rfl⟩ := d3_end h h0 h1
  refine hret D t1 t2 c h' tk' F (fun p hp => N p ?_) l.2
  rcases List.mem_cons.mp hp with rfl | hp
  · exact .head _
  · exact .tail _ (.tail _ hp)
local macro_rules | `(tactic| walk_at "binaryOp RShift int int") => `(tactic| (k_dflt (refine' rshift_int ?a ?_; (case a => omega))))
local macro_rules | `(tactic| walk_at "binaryOp LShift int int") => `(tactic| (k_dflt (refine' lshift_int ?a ?b ?_; (case a => omega); (case b => exact Bnd.shl (by assumption) (by decide) (by omega)))))
local macro_rules | `(tactic| walk_at "binaryOp Mult int int") => `(tactic| (k_dflt (refine' mul_int ?_ ?hm; (case hm => exact Bnd.mulOk (by assumption) (by assumption) (by decide) (by decide)))))
local macro_rules | `(tactic| walk_at "call ref") => `(tactic| (k_dflt (refine' c_div0 ?k1 ?k2 ?k3 ?k4 ?k5 ?kK ?kd ?ku ?h1 ?h2 ?h3 ?_; (case k1 => k_asm); (case k2 => k_asm); (case k3 => k_asm); (case k4 => k_asm); (case k5 => k_asm); (case kK => first | exact rfl | assumption); (case kd => ktr_room); (case ku => ktr_units); (case h1 => assumption); (case h2 => assumption); (case h3 => assumption); intro D9 t9 u9 c9 h9 tk9 F9 N9 l9; (try dsimp only); (try k_fold))))
local macro_rules | `(tactic| walk_at "exec While Compare cons nil") => `(tactic| k_extra "exec While Compare cons nil")
theorem c_div3 {x a3 b b1 b2 n : Int} {t t2 t3 t4 t5 t6 : Tok} (B : Below A₀ base outer h₀) (F : Fr h₀ L s.heap m) (X : (hd.heap_39 w.params).In h₀) (N : News h₀ L s.heap news) (T : Top p loose mean mg mb h₀) (hk : cs.kind = .function)
  (hdp : dp + 3 < recursionLimit) (hun : un + 24 < cLine) (hn0 : 0 ≤ n) (hn1 : n ≤ 4000) (hb1 : 0 < b1) (hb1' : b1 < 2 ^ n.toNat) (hb2 : 0 ≤ b2) (hb2' : b2 < 2 ^ n.toNat) (hb : b = b1 * 2 ^ n.toNat + b2)
  (ha3 : 0 ≤ a3) (ha3' : a3 < 2 ^ n.toNat) (hx : 0 ≤ x) (hxb : x * 2 ^ n.toNat + a3 < b * 2 ^ n.toNat)
  (hret : ∀ (D : Addr) (t1 t2 : Tok) (c : Nat) (h' : Heap) (tk' : Nat), Fr h₀ L h' m → News h₀ L h' ((D, tup2 ((x * 2 ^ n.toNat + a3).fdiv b) ((x * 2 ^ n.toNat + a3).fmod b) t1 t2 c) :: news) → AllLt D news → Q (.ref D) { s with heap := h', toks := tk' }) :
  wpAny (model PySem.Challenge.rw_ny0110_01.row.prog w) (ktrTop dp un gd cn cs L a ccd cl outer) (call (.ref 58) [.int x t, .int a3 t2, .int b t3, .int b1 t4, .int b2 t5, .int n t6]) Q E s := by
  revert X; k_fill; intro X
  have kn : n.toNat ≤ 4000 := by omega
  have gx : Bnd x (n.toNat + n.toNat) := d3_bx hb1' hb2' hb ha3 hx hxb
  have q1 : (intBits x : Int) - n ≤ 4000 := by have := gx.bits; omega
  have g1 : Bnd 1 1 := by unfold Bnd; decide
  have g2 : Bnd b1 4000 := Bnd.mono (Bnd.of_range (Int.le_of_lt hb1) hb1') kn
  have q2 : b1.natAbs.log2 < 9000 := g2.log (by decide)
  have g3 : Bnd b2 4000 := Bnd.mono (Bnd.of_range hb2 hb2') kn
  have gx8 : Bnd x 8000 := gx.mono (by omega)
  have g4 : Bnd (x.fdiv b1) 8000 := gx8.fdiv hx hb1
  have g5 : Bnd (x.fmod b1) 8000 := gx8.fmod hx hb1
  have g6 : Bnd (1 * 2 ^ n.toNat - 1) 4000 := (Bnd.pred n.toNat).mono kn
  have g8 : Bnd (b1 * 2 ^ n.toNat) 8001 := (g2.mul (Bnd.pow n.toNat)).mono (by omega)
  have g7 : Bnd (x - b1 * 2 ^ n.toNat + b1) 8003 := ((gx8.mono (by decide)).sub g8).add (g2.mono (by decide))
  have hbp : 0 < b := by rw [hb]; have := Int.mul_pos hb1 (p2 n.toNat); omega
  (k_with "exec While Compare cons nil" => k_while (fun _ q r => q * b + r = x * 2 ^ n.toNat + a3 ∧ r < b) (fun _ q r => (-r).toNat) "q" "r")
  (k_with "state" => (first | exact d3_turn (by assumption) (by assumption) | exact d3_s1 hb1 hb ha3 ha3' hxb (by assumption) | exact d3_s2 hb1 hb1' hb2 hb ha3 ha3' hx))
  refine wpAny_call ?_
  k_dflt cell_enter
  k_steps
  all_goals (exact tup_end hret (by assumption) (by assumption) (by assumption) (by k_asm) (by k_asm) (by assumption))
end
end Mine
end
section
theorem Mine.rsM2 : True := by w_top off; exact True.intro
open PySem PySem.W PyProof.Rows
set_option maxRecDepth 100000
set_option maxHeartbeats 8000000
set_option linter.unusedVariables false
set_option linter.unusedSectionVars false
namespace Mine
open PySem.Builtin.Int (intBits)
open PySem.Builtin (bitAnd bitOr)
/-- what the halves of a division want -/
structure Div2Ok (X B N H : Int) : Prop where
  h0 : 0 < H
  h1 : H ≤ 4000
  hN : N = 2 * H
  x0 : 0 ≤ X
  xb : X < B * 2 ^ N.toNat
  b0 : 2 ^ H.toNat ≤ B
  b1 : B < 2 ^ N.toNat
theorem mask_mod (x : Int) (k : Nat) : bitAnd x (1 * 2 ^ k - 1) = x.fmod (2 ^ k) := by rw [Int.one_mul]; exact kbt_maskF x k
theorem fdiv_pos_eq {a b : Int} (hb : 0 < b) : a.fdiv b = a / b := Int.fdiv_eq_ediv_of_nonneg _ (Int.le_of_lt hb)
theorem fmod_pos_eq {a b : Int} (hb : 0 < b) : a.fmod b = a % b := Int.fmod_eq_emod_of_nonneg _ (Int.le_of_lt hb)
section
variable {X B N H : Int} (ok : Div2Ok X B N H)
include ok
theorem d2_n : N.toNat = H.toNat + H.toNat := by have := ok.hN; have := ok.h0; omega
theorem d2_pn : (2 : Int) ^ N.toNat = 2 ^ H.toNat * 2 ^ H.toNat := by rw [d2_n ok, Int.pow_add]
theorem d2_bp : 0 < B := Int.lt_of_lt_of_le (p2 _) ok.b0
theorem d2_p1 : 0 < B.fdiv (2 ^ H.toNat) := by
  rw [fdiv_pos_eq (p2 _)]
  have h : (1 : Int) ≤ B / 2 ^ H.toNat := Int.le_ediv_of_mul_le (p2 _) (by rw [Int.one_mul]; exact ok.b0)
  omega
theorem d2_p2 : B.fdiv (2 ^ H.toNat) < 2 ^ H.toNat := by
  rw [fdiv_pos_eq (p2 _)]
  refine Int.ediv_lt_of_lt_mul (p2 _) ?_
  rw [← d2_pn ok]; exact ok.b1
theorem d2_m0 (Y : Int) : 0 ≤ bitAnd Y (1 * 2 ^ H.toNat - 1) := by rw [mask_mod]; exact (kbt_rest _ _).1
theorem d2_m1 (Y : Int) : bitAnd Y (1 * 2 ^ H.toNat - 1) < 2 ^ H.toNat := by rw [mask_mod]; exact (kbt_rest _ _).2
theorem d2_p5 : B = B.fdiv (2 ^ H.toNat) * 2 ^ H.toNat + bitAnd B (1 * 2 ^ H.toNat - 1) := by rw [mask_mod]; exact (kbt_whole _ _).symm
theorem d2_p7 : 0 ≤ X.fdiv (2 ^ N.toNat) := by rw [fdiv_pos_eq (p2 _)]; exact Int.ediv_nonneg ok.x0 (Int.le_of_lt (p2 _))
/-- the upper three halves -/
theorem d2_y : X.fdiv (2 ^ N.toNat) * 2 ^ H.toNat + bitAnd (X.fdiv (2 ^ H.toNat)) (1 * 2 ^ H.toNat - 1) = X.fdiv (2 ^ H.toNat) := by
  rw [mask_mod]
  have e : X.fdiv (2 ^ N.toNat) = (X.fdiv (2 ^ H.toNat)).fdiv (2 ^ H.toNat) := by
    rw [d2_pn ok, fdiv_pos_eq (p2 _), fdiv_pos_eq (p2 _), fdiv_pos_eq (Int.mul_pos (p2 _) (p2 _)), Int.ediv_ediv_of_nonneg (Int.le_of_lt (p2 _))]
  rw [e]
  exact kbt_whole _ _
theorem d2_p8 : X.fdiv (2 ^ N.toNat) * 2 ^ H.toNat + bitAnd (X.fdiv (2 ^ H.toNat)) (1 * 2 ^ H.toNat - 1) < B * 2 ^ H.toNat := by
  rw [d2_y ok, fdiv_pos_eq (p2 _)]
  refine Int.ediv_lt_of_lt_mul (p2 _) ?_
  have := ok.xb
  rw [d2_pn ok, ← Int.mul_assoc] at this
  exact this
theorem d2_r0 (Y : Int) : 0 ≤ Y.fmod B := Int.fmod_nonneg_of_pos _ (d2_bp ok)
theorem d2_r1 (Y Z : Int) : Y.fmod B * 2 ^ H.toNat + bitAnd Z (1 * 2 ^ H.toNat - 1) < B * 2 ^ H.toNat := by
  have h1 := Int.fmod_lt_of_pos Y (d2_bp ok)
  have h2 := d2_m1 ok Z
  have h3 : Y.fmod B * 2 ^ H.toNat ≤ (B - 1) * 2 ^ H.toNat := Int.mul_le_mul_of_nonneg_right (by omega) (Int.le_of_lt (p2 _))
  have h4 : (B - 1) * 2 ^ H.toNat = B * 2 ^ H.toNat - 2 ^ H.toNat := by rw [Int.sub_mul, Int.one_mul]
  omega
theorem d2_k : H.toNat ≤ 4000 := by have := ok.h1; omega
theorem d2_h : H ≤ 1000000 := by have := ok.h1; omega
theorem d2_bX : Bnd X 16000 := by
  have := d2_k ok
  refine Bnd.mono (Bnd.of_range (k := N.toNat + N.toNat) ok.x0 ?_) (by rw [d2_n ok]; omega)
  rw [Int.pow_add]
  exact Int.lt_of_lt_of_le ok.xb (Int.mul_le_mul_of_nonneg_right (Int.le_of_lt ok.b1) (Int.le_of_lt (p2 _)))
theorem d2_bq : Bnd ((X.fdiv (2 ^ N.toNat) * 2 ^ H.toNat + bitAnd (X.fdiv (2 ^ H.toNat)) (1 * 2 ^ H.toNat - 1)).fdiv B) 16000 := by
  rw [d2_y ok]
  refine Bnd.fdiv (Bnd.fdiv (d2_bX ok) ok.x0 (p2 _)) ?_ (d2_bp ok)
  rw [fdiv_pos_eq (p2 _)]; exact Int.ediv_nonneg ok.x0 (Int.le_of_lt (p2 _))
/-- the whole: quotient and rest -/
theorem d2_fin {y q1 r1 : Int} (hy : y = X.fdiv (2 ^ N.toNat) * 2 ^ H.toNat + bitAnd (X.fdiv (2 ^ H.toNat)) (1 * 2 ^ H.toNat - 1)) (hq : q1 = y.fdiv B) (hr : r1 = y.fmod B) :
    bitOr (q1 * 2 ^ H.toNat) ((r1 * 2 ^ H.toNat + bitAnd X (1 * 2 ^ H.toNat - 1)).fdiv B) = X.fdiv B ∧ (r1 * 2 ^ H.toNat + bitAnd X (1 * 2 ^ H.toNat - 1)).fmod B = X.fmod B := by
  have hB := d2_bp ok
  have c1 := d2_r1 ok y X
  have c0 := d2_r0 ok y
  have m0 := d2_m0 ok X
  rw [d2_y ok] at hy
  rw [← hr] at c1 c0
  have hz := Int.mul_fdiv_add_fmod y B
  rw [← hq, ← hr] at hz
  generalize hZ : r1 * 2 ^ H.toNat + bitAnd X (1 * 2 ^ H.toNat - 1) = Z at *
  have z0 : 0 ≤ Z := by rw [← hZ]; have := Int.mul_nonneg c0 (Int.le_of_lt (p2 H.toNat)); omega
  have hq2 : Z.fdiv B < 2 ^ H.toNat := by
    rw [fdiv_pos_eq hB]
    refine Int.ediv_lt_of_lt_mul hB ?_
    rw [Int.mul_comm]; exact c1
  have hq20 : 0 ≤ Z.fdiv B := by rw [fdiv_pos_eq hB]; exact Int.ediv_nonneg z0 (Int.le_of_lt hB)
  have y0 : 0 ≤ y := by rw [hy, fdiv_pos_eq (p2 _)]; exact Int.ediv_nonneg ok.x0 (Int.le_of_lt (p2 _))
  have hq10 : 0 ≤ q1 := by rw [hq, fdiv_pos_eq hB]; exact Int.ediv_nonneg y0 (Int.le_of_lt hB)
  rw [or_add hq10 hq20 hq2]
  have hz2 := Int.mul_fdiv_add_fmod Z B
  have hr2 : 0 ≤ Z.fmod B := Int.fmod_nonneg_of_pos _ hB
  have hr3 : Z.fmod B < B := Int.fmod_lt_of_pos _ hB
  have hX : X.fdiv (2 ^ H.toNat) * 2 ^ H.toNat + X.fmod (2 ^ H.toNat) = X := kbt_whole _ _
  rw [mask_mod] at hZ
  rw [← hy] at hX
  have key : (q1 * 2 ^ H.toNat + Z.fdiv B) * B + Z.fmod B = X := by
    generalize Z.fdiv B = q2 at *
    generalize Z.fmod B = r2 at *
    generalize X.fmod (2 ^ H.toNat) = a4 at *
    generalize (2 : Int) ^ H.toNat = P at *
    clear hq hr hy c1 c0 m0 z0 hq2 hq20 y0 hq10 hr2 hr3 ok
    subst hz
    subst hZ
    rw [← hX]
    grind
  obtain ⟨e1, e2⟩ := d3_end key (by omega) hr3
  exact ⟨e1, e2⟩
end

theorem sh1 : (2 : Int) ^ (1 : Int).toNat = 2 := by decide
theorem and1 (n : Int) : bitAnd n 1 = n % 2 := by
  have := kbt_mask n 1
  simpa using this
/-- the even road -/
theorem d2_ok0 {x b n : Int} (hn : 4000 < n) (hn1 : n ≤ 8000) (hx : 0 ≤ x) (hxb : x < b * 2 ^ n.toNat) (hb0 : 2 ^ (n.toNat - 1) ≤ b) (hb1 : b < 2 ^ n.toNat) (hp : bitAnd n 1 = 0) : Div2Ok x b n (n.fdiv (2 ^ (1 : Int).toNat)) := by
  rw [and1] at hp
  have e : n.fdiv (2 ^ (1 : Int).toNat) = n / 2 := by rw [sh1]; exact fdiv_pos_eq (by decide)
  rw [e]
  refine ⟨by omega, by omega, by omega, hx, hxb, ?_, hb1⟩
  refine Int.le_trans ?_ hb0
  have : (n / 2).toNat ≤ n.toNat - 1 := by omega
  have h := Nat.pow_le_pow_right (n := 2) (by decide) this
  have := cast_p2 (n / 2).toNat
  have := cast_p2 (n.toNat - 1)
  omega
/-- the odd road -/
theorem d2_ok1 {x b n : Int} (hn : 4000 < n) (hn1 : n ≤ 7999) (hx : 0 ≤ x) (hxb : x < b * 2 ^ n.toNat) (hb0 : 2 ^ (n.toNat - 1) ≤ b) (hb1 : b < 2 ^ n.toNat) (hp : bitAnd n 1 ≠ 0) : Div2Ok (x * 2 ^ (1 : Int).toNat) (b * 2 ^ (1 : Int).toNat) (n + 1) ((n + 1).fdiv (2 ^ (1 : Int).toNat)) := by
  rw [and1] at hp
  rw [sh1]
  have e : (n + 1).fdiv 2 = (n + 1) / 2 := fdiv_pos_eq (by decide)
  rw [e]
  have e2 : (n + 1).toNat = n.toNat + 1 := by omega
  have e3 : (2 : Int) ^ (n + 1).toNat = 2 ^ n.toNat * 2 := by rw [e2, Int.pow_succ]
  refine ⟨by omega, by omega, by omega, by omega, ?_, ?_, ?_⟩
  · rw [e3]
    have h1 : b * 2 * (2 ^ n.toNat * 2) = b * 2 ^ n.toNat * 4 := by
      generalize (2 : Int) ^ n.toNat = P
      grind
    have : 0 ≤ b * 2 ^ n.toNat := by omega
    omega
  · have : ((n + 1) / 2).toNat ≤ n.toNat - 1 := by omega
    have h := Nat.pow_le_pow_right (n := 2) (by decide) this
    have := cast_p2 ((n + 1) / 2).toNat
    have := cast_p2 (n.toNat - 1)
    have := p2 (n.toNat - 1)
    omega
  · rw [e3]; omega
/-- the padding undone -/
theorem d2_pad {x b : Int} (hb : 0 < b) : (x * 2 ^ (1 : Int).toNat).fdiv (b * 2 ^ (1 : Int).toNat) = x.fdiv b ∧ ((x * 2 ^ (1 : Int).toNat).fmod (b * 2 ^ (1 : Int).toNat)).fdiv (2 ^ (1 : Int).toNat) = x.fmod b := by
  rw [sh1, fdiv_pos_eq hb, fmod_pos_eq hb, fdiv_pos_eq (by omega), fmod_pos_eq (by omega), fdiv_pos_eq (by decide)]
  refine ⟨Int.mul_ediv_mul_of_pos_left _ _ (by decide), ?_⟩
  rw [Int.mul_comm x 2, Int.mul_comm b 2, Int.mul_emod_mul_of_pos _ _ (by decide)]
  omega

theorem d2_fin1 {x b N H : Int} (hb : 0 < b) (ok : Div2Ok (x * 2 ^ (1 : Int).toNat) (b * 2 ^ (1 : Int).toNat) N H) :
    bitOr (((x * 2 ^ (1 : Int).toNat).fdiv (2 ^ N.toNat) * 2 ^ H.toNat + bitAnd ((x * 2 ^ (1 : Int).toNat).fdiv (2 ^ H.toNat)) (1 * 2 ^ H.toNat - 1)).fdiv (b * 2 ^ (1 : Int).toNat) * 2 ^ H.toNat)
      ((((x * 2 ^ (1 : Int).toNat).fdiv (2 ^ N.toNat) * 2 ^ H.toNat + bitAnd ((x * 2 ^ (1 : Int).toNat).fdiv (2 ^ H.toNat)) (1 * 2 ^ H.toNat - 1)).fmod (b * 2 ^ (1 : Int).toNat) * 2 ^ H.toNat + bitAnd (x * 2 ^ (1 : Int).toNat) (1 * 2 ^ H.toNat - 1)).fdiv (b * 2 ^ (1 : Int).toNat)) = x.fdiv b ∧
    ((((x * 2 ^ (1 : Int).toNat).fdiv (2 ^ N.toNat) * 2 ^ H.toNat + bitAnd ((x * 2 ^ (1 : Int).toNat).fdiv (2 ^ H.toNat)) (1 * 2 ^ H.toNat - 1)).fmod (b * 2 ^ (1 : Int).toNat) * 2 ^ H.toNat + bitAnd (x * 2 ^ (1 : Int).toNat) (1 * 2 ^ H.toNat - 1)).fmod (b * 2 ^ (1 : Int).toNat)).fdiv (2 ^ (1 : Int).toNat) = x.fmod b := by
  obtain ⟨e1, e2⟩ := d2_fin ok rfl rfl rfl
  rw [e1, e2]
  exact d2_pad hb
end Mine
end
section
theorem Mine.rsB6 : True := by w_top off; exact True.intro
open PySem PySem.W PyProof.Rows
set_option maxRecDepth 100000
set_option maxHeartbeats 8000000
set_option linter.unusedVariables false
namespace Mine
open PySem.Builtin.Int (intBits)
open PySem.Builtin (bitAnd bitOr)
theorem d2_no {P : Prop} {n : Int} (h : ¬ bitAnd n 1 = 0) (h' : bitAnd n 1 = 0) : P := absurd h' h
section
variable {w : World} {p : Program} {loose : List Str} {mean : ExcName → Option Value} {mg mb : Str → Option Value} {dp un : Nat} {gd : Option (List Code)} {cn : Str} {cs : Scope} {a : Addr} {ccd : Value} {cl : List (Str × Addr)} {outer : List Env} {A₀ : Around} {base h₀ : Heap} {L : Addr} {m : Str → Option Value} {news : List (Addr × Obj)} {s : Shared} {Q E : Value → Shared → Prop}
local macro_rules | `(tactic| walk_at "binaryOp RShift int int") => `(tactic| (k_dflt (refine' rshift_int ?a ?_; (case a => first | omega | exact Int.le_of_lt (Div2Ok.h0 (by assumption))))))
local macro_rules | `(tactic| walk_at "inplaceOp RShift int int") => `(tactic| (k_dflt (refine' irshift_int ?a ?_; (case a => omega))))
local macro_rules | `(tactic| walk_at "inplaceOp LShift int int") => `(tactic| (k_dflt (refine' ilshift_int ?a ?b ?_; (case a => omega); (case b => exact Bnd.shl (by assumption) (by decide) (by omega)))))
local macro_rules | `(tactic| walk_at "binaryOp LShift int int") => `(tactic| (k_dflt (refine' lshift_int ?a ?b ?_; (case a => exact Int.le_of_lt (Div2Ok.h0 (by assumption))); (case b => exact Bnd.shl (by first | assumption | exact d2_bq (by assumption)) (by decide) (d2_h (by assumption))))))
local macro_rules | `(tactic| walk_at "call ref") => `(tactic| (k_dflt (refine' c_div3 ?k1 ?k2 ?k3 ?k4 ?k5 ?kK ?kd ?ku ?h1 ?h2 ?h3 ?h4 ?h5 ?h6 ?h7 ?h8 ?h9 ?h10 ?h11 ?_; (case k1 => k_asm); (case k2 => k_asm); (case k3 => k_asm); (case k4 => k_asm); (case k5 => k_asm); (case kK => first | exact rfl | assumption); (case kd => ktr_room); (case ku => ktr_units); (case h1 => exact Int.le_of_lt (Div2Ok.h0 (by assumption))); (case h2 => exact Div2Ok.h1 (by assumption)); (case h3 => exact d2_p1 (by assumption)); (case h4 => exact d2_p2 (by assumption)); (case h5 => exact d2_m0 (by assumption) _); (case h6 => exact d2_m1 (by assumption) _); (case h7 => exact d2_p5 (by assumption)); (case h8 => exact d2_m0 (by assumption) _); (case h9 => exact d2_m1 (by assumption) _); (case h10 => first | exact d2_p7 (by assumption) | exact d2_r0 (by assumption) _); (case h11 => first | exact d2_p8 (by assumption) | exact d2_r1 (by assumption) _ _); intro D9 t9 u9 c9 h9 tk9 F9 N9 l9; (try dsimp only); (try k_fold))))
theorem tup_end2 {D D1 D2 D3 : Addr} {q r q' r' : Int} {o1 o2 o3 : Obj} {t1 t2 : Tok} {c : Nat} {h' : Heap} {tk' : Nat} (hret : ∀ (D : Addr) (t1 t2 : Tok) (c : Nat) (h' : Heap) (tk' : Nat), Fr h₀ L h' m → News h₀ L h' ((D, tup2 q r t1 t2 c) :: news) → AllLt D news → Q (.ref D) { s with heap := h', toks := tk' })
    (h : q' = q ∧ r' = r) (F : Fr h₀ L h' m) (N : News h₀ L h' ((D, tup2 q' r' t1 t2 c) :: (D1, o1) :: (D2, o2) :: (D3, o3) :: news)) (l : D1 < D ∧ D2 < D ∧ D3 < D ∧ AllLt D news) : Q (.ref D) { s with heap := h', toks := tk' } := by
  obtain ⟨rfl, rfl⟩ := h
  refine hret D t1 t2 c h' tk' F (fun p hp => N p ?_) l.2.2.2
  rcases List.mem_cons.mp hp with rfl | hp
  · exact .head _
  · exact .tail _ (.tail _ (.tail _ (.tail _ hp)))
local macro_rules | `(tactic| walk_at "execs cons") => `(tactic| exact d2_no (by assumption) (by assumption))
local macro_rules | `(tactic| walk_at "execs nil") => `(tactic| exact d2_no (by assumption) (by assumption))
theorem c_div2 {x b n : Int} {t t2 t3 : Tok} (B : Below A₀ base outer h₀) (F : Fr h₀ L s.heap m) (X : (hd.heap_39 w.params).In h₀) (N : News h₀ L s.heap news) (T : Top p loose mean mg mb h₀) (hk : cs.kind = .function)
  (hdp : dp + 5 < recursionLimit) (hun : un + 40 < cLine) (hn : 4000 < n) (hn1 : n ≤ 7999) (hx : 0 ≤ x) (hxb : x < b * 2 ^ n.toNat) (hb0 : 2 ^ (n.toNat - 1) ≤ b) (hb1 : b < 2 ^ n.toNat) (hbig : ¬ (intBits x : Int) - n ≤ 4000)
  (hret : ∀ (D : Addr) (t1 t2 : Tok) (c : Nat) (h' : Heap) (tk' : Nat), Fr h₀ L h' m → News h₀ L h' ((D, tup2 (x.fdiv b) (x.fmod b) t1 t2 c) :: news) → AllLt D news → Q (.ref D) { s with heap := h', toks := tk' }) :
  wpAny (model PySem.Challenge.rw_ny0110_01.row.prog w) (ktrTop dp un gd cn cs L a ccd cl outer) (call (.ref 51) [.int x t, .int b t2, .int n t3]) Q E s := by
  revert X; k_fill; intro X
  have g1 : Bnd 1 1 := by unfold Bnd; decide
  by_cases hp : bitAnd n 1 = 0
  · have ok := d2_ok0 hn (by omega) hx hxb hb0 hb1 hp
    refine wpAny_call ?_
    k_dflt cell_enter
    k_steps
    all_goals (exact tup_end2 hret (d2_fin ok rfl rfl rfl) (by k_asm) (by k_asm) (by assumption))
  · have ok := d2_ok1 hn hn1 hx hxb hb0 hb1 hp
    have hbp : 0 < b := Int.lt_of_lt_of_le (p2 _) hb0
    have gx : Bnd x 16000 := Bnd.le (d2_bX ok) hx (by rw [sh1]; omega)
    have gb : Bnd b 8000 := Bnd.mono (Bnd.of_range (Int.le_of_lt hbp) hb1) (by omega)
    refine wpAny_call ?_
    k_dflt cell_enter
    k_steps
    all_goals (exact tup_end2 hret (d2_fin1 hbp ok) (by k_asm) (by k_asm) (by assumption))
end
end Mine
end
section
theorem Mine.rsM3 : True := by w_top off; exact True.intro
open PySem PySem.W PyProof.Rows
set_option maxRecDepth 100000
set_option maxHeartbeats 8000000
set_option linter.unusedVariables false
namespace Mine
open PySem.Builtin.Int (intBits)
open PySem.Builtin (bitAnd bitOr bitXor)
/-- the digit i of x in the base 2 ^ k -/
def dig (k : Nat) (x : Int) (i : Nat) : Int := x / 2 ^ (k * i) % 2 ^ k
theorem dig_zero {k : Nat} {x : Int} (h0 : 0 ≤ x) (h : x < 2 ^ (k * 1)) : dig k x 0 = x := by
  unfold dig
  rw [Nat.mul_zero, Int.pow_zero, Int.ediv_one]
  rw [Nat.mul_one] at h
  exact Int.emod_eq_of_lt h0 h
theorem dig_up (k : Nat) (x : Int) (h i : Nat) : dig k (x / 2 ^ (k * h)) i = dig k x (h + i) := by
  unfold dig
  rw [Int.ediv_ediv_of_nonneg (Int.le_of_lt (p2 _)), ← Int.pow_add, ← Nat.mul_add]
theorem dig_low (k : Nat) (x : Int) (h i : Nat) (hi : i < h) : dig k (x % 2 ^ (k * h)) i = dig k x i := by
  unfold dig
  have e1 : k * h = k * i + (k * (h - i - 1) + k) := by
    have : h = i + (h - i - 1 + 1) := by omega
    conv => lhs; rw [this]
    rw [Nat.mul_add, Nat.mul_add, Nat.mul_one]
  rw [e1, Int.pow_add]
  have hP := p2 (k * i)
  have hR := p2 (k * (h - i - 1) + k)
  generalize hPe : (2 : Int) ^ (k * i) = P at *
  have e2 : (2 : Int) ^ (k * (h - i - 1) + k) = 2 ^ k * 2 ^ (k * (h - i - 1)) := by rw [Int.pow_add, Int.mul_comm]
  rw [e2] at hR ⊢
  generalize (2 : Int) ^ (k * (h - i - 1)) = S at *
  have hk := p2 k
  generalize (2 : Int) ^ k = K at *
  -- x % (P * (K * S)) / P = x / P % (K * S)
  have e3 : x % (P * (K * S)) / P = x / P % (K * S) := by
    rw [Int.emod_def, Int.emod_def, ← Int.ediv_ediv_of_nonneg (Int.le_of_lt hP)]
    have : x - P * (K * S) * (x / P / (K * S)) = x + P * (-((K * S) * (x / P / (K * S)))) := by grind
    rw [this, Int.add_mul_ediv_left _ _ (by omega)]
    omega
  rw [e3, Int.emod_emod_of_dvd _ ⟨S, rfl⟩]
theorem xor_low' {x : Int} {k : Nat} (hx : 0 ≤ x) : bitXor x (x / 2 ^ k * 2 ^ k) = x % 2 ^ k := by
  have := xor_low (x := x) (k := k) hx
  rwa [fdiv_pos_eq (p2 k), fmod_pos_eq (p2 k)] at this
theorem mid_mul {mid l k : Nat} (h : l ≤ mid) : ((mid : Int) - (l : Int)) * (k : Int) = ((k * (mid - l) : Nat) : Int) := by
  rw [Int.natCast_mul, Int.mul_comm]
  congr 1
  omega
theorem mid_div (l r : Nat) : ((l : Int) + (r : Int)).fdiv (2 ^ (1 : Int).toNat) = (((l + r) / 2 : Nat) : Int) := by
  rw [sh1, fdiv_pos_eq (by decide)]
  omega
theorem low_lt {x : Int} (k : Nat) : x % 2 ^ k < 2 ^ k := Int.emod_lt_of_pos _ (p2 k)
theorem up_lt {x : Int} {k l mid r : Nat} (h1 : l ≤ mid) (h2 : mid ≤ r) (h : x < 2 ^ (k * (r - l))) : x / 2 ^ (k * (mid - l)) < 2 ^ (k * (r - mid)) := by
  refine Int.ediv_lt_of_lt_mul (p2 _) ?_
  rw [← Int.pow_add, ← Nat.mul_add]
  have : r - mid + (mid - l) = r - l := by omega
  rw [this]; exact h
theorem up_nonneg {x : Int} (k : Nat) (h : 0 ≤ x) : 0 ≤ x / 2 ^ k := Int.ediv_nonneg h (Int.le_of_lt (p2 _))
/-- the leaf -/
theorem dig_leaf {ns : List Int} {k l r : Nat} {x : Int} (h0 : 0 ≤ x) (h : x < 2 ^ (k * (r - l))) (hr : l + 1 = r) (hl : r ≤ ns.length) (i : Nat) :
    (ns.set l x).getD i 0 = if l ≤ i ∧ i < r then dig k x (i - l) else ns.getD i 0 := by
  by_cases hi : i = l
  · subst hi
    rw [if_pos (by omega)]
    have e : r - i = 1 := by omega
    rw [e] at h
    rw [Nat.sub_self, dig_zero h0 h]
    simp only [List.getD_eq_getElem?_getD, List.getElem?_set, if_true]
    rw [if_pos (by omega)]
    rfl
  · rw [if_neg (by omega)]
    simp [List.getD_eq_getElem?_getD, Ne.symm hi]
/-- the node -/
theorem dig_node {ns n1 n2 : List Int} {k l mid r : Nat} {x : Int} (h1 : l < mid) (h2 : mid < r)
    (e1 : ∀ i, n1.getD i 0 = if l ≤ i ∧ i < mid then dig k (x % 2 ^ (k * (mid - l))) (i - l) else ns.getD i 0)
    (e2 : ∀ i, n2.getD i 0 = if mid ≤ i ∧ i < r then dig k (x / 2 ^ (k * (mid - l))) (i - mid) else n1.getD i 0) (i : Nat) :
    n2.getD i 0 = if l ≤ i ∧ i < r then dig k x (i - l) else ns.getD i 0 := by
  rw [e2]
  by_cases ha : mid ≤ i ∧ i < r
  · rw [if_pos ha, if_pos (by omega), dig_up]
    congr 1
    omega
  · rw [if_neg ha, e1]
    by_cases hb : l ≤ i ∧ i < mid
    · rw [if_pos hb, if_pos (by omega), dig_low _ _ _ _ (by omega)]
    · rw [if_neg hb, if_neg (by omega)]

/-- all digits -/
def digs (kn k : Nat) (x : Int) : List Int := (List.range k).map (dig kn x)
theorem digs_eq {kn k : Nat} {x : Int} {ns ms : List Int} (hl : ns.length = ms.length) (hm : ms.length = k) (h : ∀ i, ns.getD i 0 = if 0 ≤ i ∧ i < k then dig kn x (i - 0) else ms.getD i 0) : ns = digs kn k x := by
  apply List.ext_getElem
  · simp [digs]; omega
  · intro i h1 h2
    have hi : i < k := by omega
    have := h i
    rw [if_pos ⟨Nat.zero_le _, hi⟩] at this
    simp only [List.getD_eq_getElem?_getD, List.getElem?_eq_getElem h1, Option.getD_some, Nat.sub_zero] at this
    rw [this]
    simp [digs]

/-- c digits from the place l on, put together -/
def valD (kn : Nat) (ns : List Int) (l : Nat) : Nat → Int
  | 0 => 0
  | c + 1 => ns.getD l 0 + 2 ^ kn * valD kn ns (l + 1) c
theorem valD_add (kn : Nat) (ns : List Int) : ∀ (a l b : Nat), valD kn ns l (a + b) = valD kn ns l a + 2 ^ (kn * a) * valD kn ns (l + a) b
  | 0, l, b => by simp [valD]
  | a + 1, l, b => by
    have ih := valD_add kn ns a (l + 1) b
    rw [show a + 1 + b = (a + b) + 1 from by omega, valD, ih, valD, show l + 1 + a = l + (a + 1) from by omega, Nat.mul_add, Nat.mul_one, Int.pow_add]
    grind
def DigOk (kn : Nat) (ns : List Int) : Prop := ∀ d ∈ ns, 0 ≤ d ∧ d < 2 ^ kn
theorem DigOk.at {kn : Nat} {ns : List Int} (h : DigOk kn ns) (i : Nat) : 0 ≤ ns.getD i 0 ∧ ns.getD i 0 < 2 ^ kn := by
  rw [List.getD_eq_getElem?_getD]
  cases hq : ns[i]? with
  | none => exact ⟨Int.le_refl _, p2 kn⟩
  | some d => exact h d (List.mem_of_getElem? hq)
theorem valD_range {kn : Nat} {ns : List Int} (h : DigOk kn ns) : ∀ (c l : Nat), 0 ≤ valD kn ns l c ∧ valD kn ns l c < 2 ^ (kn * c)
  | 0, l => by simp [valD]
  | c + 1, l => by
    obtain ⟨h1, h2⟩ := valD_range h c (l + 1)
    obtain ⟨h3, h4⟩ := h.at l
    rw [valD, Nat.mul_add, Nat.mul_one, Int.pow_add]
    have hP := p2 kn
    generalize valD kn ns (l + 1) c = v at *
    generalize ns.getD l 0 = d at *
    generalize (2 : Int) ^ (kn * c) = R at *
    generalize (2 : Int) ^ kn = P at *
    have h5 : 0 ≤ P * v := Int.mul_nonneg (Int.le_of_lt hP) h1
    have h6 : P * v ≤ P * (R - 1) := Int.mul_le_mul_of_nonneg_left (by omega) (Int.le_of_lt hP)
    have h7 : P * (R - 1) = R * P - P := by grind
    omega
theorem valD_bnd {kn : Nat} {ns : List Int} (h : DigOk kn ns) {c : Nat} (l : Nat) (hkn : kn ≤ 7000) (hc : c ≤ 100) : Bnd (valD kn ns l c) 700000 := by
  obtain ⟨h1, h2⟩ := valD_range h c l
  exact Bnd.mono (Bnd.of_range h1 h2) (Nat.mul_le_mul hkn hc)
theorem valD_leaf {kn : Nat} {ns : List Int} {l r : Nat} (h : l + 1 = r) : ns.getD l 0 = valD kn ns l (r - l) := by
  rw [show r - l = 0 + 1 from by omega, valD, valD]
  omega
theorem valD_node {kn : Nat} {ns : List Int} {l mid r : Nat} (h1 : l ≤ mid) (h2 : mid ≤ r) : valD kn ns mid (r - mid) * 2 ^ (kn * (mid - l)) + valD kn ns l (mid - l) = valD kn ns l (r - l) := by
  have := valD_add kn ns (mid - l) l (r - mid)
  rw [show mid - l + (r - mid) = r - l from by omega, show l + (mid - l) = mid from by omega] at this
  rw [this]
  grind
end Mine
end
section
theorem Mine.rsB7 : True := by w_top off; exact True.intro
open PySem PySem.W PyProof.Rows
set_option maxRecDepth 100000
set_option maxHeartbeats 8000000
set_option linter.unusedVariables false
namespace Mine
open PySem.Builtin.Int (intBits)
open PySem.Builtin (bitAnd bitOr bitXor)
theorem all_ne {d e : Nat} {l : List (Addr × Obj)} (h : AllLt e l) (hd : e ≤ d) : ∀ p ∈ l, p.1 ≠ d := fun p hp => Nat.ne_of_lt (Nat.lt_of_lt_of_le (ktn_ltOf h p hp) hd)
local macro_rules | `(tactic| k_all) => `(tactic| first | exact List.forall_mem_nil _ | with_reducible assumption | exact all_ne (by with_reducible assumption) (by first | exact Nat.le_refl _ | omega) | (refine' List.forall_mem_cons.mpr ⟨?a, ?b⟩; (case a => k_ne); (case b => k_all)))
local macro_rules | `(tactic| walk_at "mine enterC") => `(tactic| (refine' code_defC ?k1 ?k2 ?k3 ?k4 ?k5 ?kA ?kF ?kK ?k6 ?k7 ?k8 ?k9 ?kB ?kD ?_ ?c2 ?c3 ?c4; (case kA => exact rfl); (case kF => exact rfl); (case kK => assumption); (case k1 => k_asm); (case k2 => k_asm); (case k3 => k_asm); (case k4 => k_asm); (case k5 => k_asm); (case k6 => k_is); (case k7 => k_is); (case k8 => ktr_room); (case k9 => exact BindsTo.of_eq rfl); (case kB => exact rfl); (case kD => decide +kernel); (case c2 => exact rfl); (case c3 => exact rfl); (case c4 => exact rfl); k_whole; intro g' L' h' tk' cells' FG' F' N' Y' B' X' T' l1; (try k_lt l1); (try obtain ⟨l2, l3⟩ := l1); (try obtain ⟨l4, l5⟩ := l3); k_cells Y'; (try simp only [List.cons_append, List.nil_append] at N'); (try dsimp only); (try k_lift B'); (try k_fold)))
theorem ints_rep (t : Tok) : ∀ k : Nat, IntsAre (List.replicate k (Value.int 0 t)) (List.replicate k 0)
  | 0 => .nil
  | k + 1 => .cons 0 t (ints_rep t k)
theorem flat_one (v : Value) : ∀ k : Nat, (List.replicate k [v]).flatten = List.replicate k v
  | 0 => rfl
  | k + 1 => by rw [List.replicate_succ, List.flatten_cons, flat_one v k]; rfl
theorem mul_zeros {prog : Program} {w : World} {A : Around} {E : Value → Shared → Prop} {s : Shared} {h₀ : Heap} {L : Addr} {m : Str → Option Value} {news : List (Addr × Obj)} {l : Addr} {x : Int} {t u : Tok} {k e : Nat} {Q : Value → Shared → Prop}
    (F : Fr h₀ L s.heap m) (N : News h₀ L s.heap news) (hm : (l, listOf #[.int 0 t] e) ∈ news) (hx : x = (k : Int)) (hk : k ≤ 100)
    (h : ∀ D vs h', Fr h₀ L h' m → News h₀ L h' ((D, listOf vs.toArray 0) :: news) → AllLt D news → IntsAre vs (List.replicate k 0) → Q (.ref D) { s with heap := h' }) : wpAny (model prog w) A (binaryOp .Mult (.ref l) (.int x u)) Q E s := by
  subst hx
  refine KMa.mul F N (vs := [.int 0 t]) (PySem.IsL.isList (n := e) (N _ hm).1) (by omega) (by omega) (by simp; omega) (flat_one _ _) fun D h' F' N' l' => ?_
  exact h D _ h' F' N' (allLt_of l') (ints_rep t _)
local macro_rules | `(tactic| walk_at "binaryOp Mult ref int") => `(tactic| (k_dflt (refine' mul_zeros ?F ?N ?m ?x ?k ?_; (case F => k_asm); (case N => k_asm); (case m => k_mem); (case x => assumption); (case k => assumption); intro D9 vs9 h9 F9 N9 l9 i9; (try simp only [AllLt, and_true] at l9))))
local macro_rules | `(tactic| walk_at "binaryOp FloorDiv int int") => `(tactic| (k_dflt (refine' floordiv_int ?b ?_ ?p; (case b => omega); (case p => exact Or.inl (PyProof.noPylong_small (by omega))))))

def Hold (P : Prop) : Prop := P
theorem Hold.out {P : Prop} (h : Hold P) : P := h
theorem Hold.mk {P : Prop} (h : P) : Hold P := h

/-- what inner does: the digits of x to the places from l to r -/
def InnerT (w : World) (p : Program) (loose : List Str) (mean : ExcName → Option Value) (mg mb : Str → Option Value) (f : Addr) (rest : List (Addr × Obj)) (lA : Addr) (e kn : Nat) (N : Nat) : Prop :=
  ∀ (x : Int) (l r : Nat), r - l ≤ N → ∀ (dp un : Nat) (gd : Option (List Code)) (cn : Str) (cs : Scope) (a : Addr) (ccd : Value) (cl : List (Str × Addr)) (outer : List Env) (A₀ : Around) (base h₀ : Heap) (L : Addr) (m : Str → Option Value) (s : Shared) (Q E : Value → Shared → Prop) (t t2 t3 : Tok) (vs : List Value) (ns : List Int),
    Below A₀ base outer h₀ → Fr h₀ L s.heap m → (hd.heap_39 w.params).In h₀ → News h₀ L s.heap ((lA, listOf vs.toArray e) :: rest) → Top p loose mean mg mb h₀ → cs.kind = .function → IntsAre vs ns →
    l < r → r ≤ ns.length → ns.length ≤ 100 → 0 ≤ x → x < 2 ^ (kn * (r - l)) → dp + N + 1 < recursionLimit → un + 8 * (N + 1) < cLine →
    (∀ (h' : Heap) (tk' : Nat) (vs' : List Value) (ns' : List Int), Fr h₀ L h' m → News h₀ L h' ((lA, listOf vs'.toArray e) :: rest) → IntsAre vs' ns' → ns'.length = ns.length →
      (∀ i, ns'.getD i 0 = if l ≤ i ∧ i < r then dig kn x (i - l) else ns.getD i 0) → Q .none { s with heap := h', toks := tk' }) →
    wpAny (model PySem.Challenge.rw_ny0110_01.row.prog w) (ktrTop dp un gd cn cs L a ccd cl outer) (call (.ref f) [.int x t, .int (l : Int) t2, .int (r : Int) t3]) Q E s
theorem inner_zero {w : World} {p : Program} {loose : List Str} {mean : ExcName → Option Value} {mg mb : Str → Option Value} {f : Addr} {rest : List (Addr × Obj)} {lA : Addr} {e kn : Nat} : InnerT w p loose mean mg mb f rest lA e kn 0 := by
  intro x l r h dp un gd cn cs a ccd cl outer A₀ base h₀ L m s Q E t t2 t3 vs ns B F X N T hk hi hlr
  omega
theorem inner_all {w : World} {p : Program} {loose : List Str} {mean : ExcName → Option Value} {mg mb : Str → Option Value} {f : Addr} {rest : List (Addr × Obj)} {lA : Addr} {e kn : Nat}
    (step : ∀ N, InnerT w p loose mean mg mb f rest lA e kn N → InnerT w p loose mean mg mb f rest lA e kn (N + 1)) : ∀ N, InnerT w p loose mean mg mb f rest lA e kn N
  | 0 => inner_zero
  | N + 1 => step N (inner_all step N)
theorem inner_use {w : World} {p : Program} {loose : List Str} {mean : ExcName → Option Value} {mg mb : Str → Option Value} {f : Addr} {rest : List (Addr × Obj)} {lA : Addr} {e kn : Nat}
    {x : Int} {l r N₀ : Nat} {dp un : Nat} {gd : Option (List Code)} {cn : Str} {cs : Scope} {a : Addr} {ccd : Value} {cl : List (Str × Addr)} {outer : List Env} {A₀ : Around} {base h₀ : Heap} {L : Addr} {m : Str → Option Value} {s : Shared} {Q E : Value → Shared → Prop} {t t2 t3 : Tok} {vs : List Value} {ns : List Int}
    (B : Below A₀ base outer h₀) (F : Fr h₀ L s.heap m) (X : (hd.heap_39 w.params).In h₀) (N : News h₀ L s.heap ((lA, listOf vs.toArray e) :: rest)) (T : Top p loose mean mg mb h₀) (hk : cs.kind = .function) (hi : IntsAre vs ns)
    (hN : r - l ≤ N₀) (hlr : l < r) (hr : r ≤ ns.length) (h100 : ns.length ≤ 100) (hx0 : 0 ≤ x) (hx : x < 2 ^ (kn * (r - l))) (hdp : dp + N₀ + 1 < recursionLimit) (hun : un + 8 * (N₀ + 1) < cLine)
    (all : InnerT w p loose mean mg mb f rest lA e kn N₀)
    (ret : ∀ (h' : Heap) (tk' : Nat) (vs' : List Value) (ns' : List Int), Fr h₀ L h' m → News h₀ L h' ((lA, listOf vs'.toArray e) :: rest) → IntsAre vs' ns' → ns'.length = ns.length →
      (∀ i, ns'.getD i 0 = if l ≤ i ∧ i < r then dig kn x (i - l) else ns.getD i 0) → Q .none { s with heap := h', toks := tk' }) :
    wpAny (model PySem.Challenge.rw_ny0110_01.row.prog w) (ktrTop dp un gd cn cs L a ccd cl outer) (call (.ref f) [.int x t, .int (l : Int) t2, .int (r : Int) t3]) Q E s :=
  all x l r hN dp un gd cn cs a ccd cl outer A₀ base h₀ L m s Q E t t2 t3 vs ns B F X N T hk hi hlr hr h100 hx0 hx hdp hun ret
section
variable {prog : Program} {w : World} {A : Around} {E : Value → Shared → Prop} {s : Shared} {t u : Tok} {Q : Value → Shared → Prop}
theorem rsh_mid {l r : Nat} (h : Q (.int (((l + r) / 2 : Nat) : Int) s.toks) { s with toks := s.toks + 1 }) : wpAny (model prog w) A (binaryOp .RShift (.int ((l : Int) + (r : Int)) t) (.int 1 u)) Q E s :=
  rshift_int (by decide) (by rw [mid_div]; exact h)
theorem mul_mid {mid l k : Nat} (hl : l ≤ mid) (hm : mid ≤ 1000) (h : Q (.int ((k * (mid - l) : Nat) : Int) s.toks) { s with toks := s.toks + 1 }) : wpAny (model prog w) A (binaryOp .Mult (.int ((mid : Int) - (l : Int)) t) (.int (k : Int) u)) Q E s :=
  mul_int (by rw [mid_mul hl]; exact h) (front_mul1 (by omega) (by omega))
theorem rsh_nat {x : Int} {k : Nat} (h : Q (.int (x / 2 ^ k) s.toks) { s with toks := s.toks + 1 }) : wpAny (model prog w) A (binaryOp .RShift (.int x t) (.int (k : Int) u)) Q E s :=
  rshift_int (by omega) (by rw [Int.toNat_natCast, fdiv_pos_eq (p2 k)]; exact h)
theorem lsh_nat {x : Int} {k j : Nat} (hx : Bnd x j) (hj : j ≤ 1000000) (hk : k ≤ 1000000) (h : Q (.int (x * 2 ^ k) s.toks) { s with toks := s.toks + 1 }) : wpAny (model prog w) A (binaryOp .LShift (.int x t) (.int (k : Int) u)) Q E s :=
  lshift_int (by omega) (hx.shl hj (by omega)) (by rw [Int.toNat_natCast]; exact h)
theorem xor_nat {x : Int} {k : Nat} (hx : 0 ≤ x) (h : Q (.int (x % 2 ^ k) s.toks) { s with toks := s.toks + 1 }) : wpAny (model prog w) A (binaryOp .BitXor (.int x t) (.int (x / 2 ^ k * 2 ^ k) u)) Q E s :=
  xor_int (by rw [xor_low' hx]; exact h)
variable {h₀ : Heap} {L : Addr} {m : Str → Option Value} {news : List (Addr × Obj)}
theorem len_own {D : Addr} {vs : List Value} {ns : List Int} {e : Nat} (N : News h₀ L s.heap news) (hm : (D, listOf vs.toArray e) ∈ news) (hi : IntsAre vs ns) (hl : ns.length ≤ 1000000) (h : Q (.int (ns.length : Int) (s.toks + 1)) { s with toks := s.toks + 1 + 1 }) :
    wpAny (model prog w) A (call (.builtin "len") [.ref D]) Q E s := by
  have hv : vs.length = ns.length := hi.length
  refine len_list (PySem.IsL.isList (n := e) (N _ hm).1) (by rw [List.size_toArray, hv]; omega) ?_
  rw [List.size_toArray, hv]; exact h
theorem news_two' {a b c : Addr × Obj} {r : List (Addr × Obj)} {h : Heap} (N : News h₀ L h (a :: b :: c :: r)) : News h₀ L h (c :: a :: b :: r) := fun p hp => N p (by
  rcases List.mem_cons.mp hp with rfl | hp
  · exact .tail _ (.tail _ (.head _))
  rcases List.mem_cons.mp hp with rfl | hp
  · exact .head _
  rcases List.mem_cons.mp hp with rfl | hp
  · exact .tail _ (.head _)
  · exact .tail _ (.tail _ (.tail _ hp)))
end
local macro_rules | `(tactic| walk_at "binaryOp RShift int int") => `(tactic| (with_reducible (first | (refine rsh_mid ?_) | (refine rsh_nat ?_))))
local macro_rules | `(tactic| walk_at "binaryOp LShift int int") => `(tactic| ((with_reducible refine' lsh_nat ?a ?b ?c ?_); (case a => with_reducible assumption); (case b => decide); (case c => with_reducible assumption)))
local macro_rules | `(tactic| walk_at "binaryOp Mult int int") => `(tactic| ((with_reducible refine' mul_mid ?a ?b ?_); (case a => omega); (case b => omega)))
local macro_rules | `(tactic| walk_at "binaryOp BitXor int int") => `(tactic| ((with_reducible refine' xor_nat ?a ?_); (case a => with_reducible assumption)))
local macro_rules | `(tactic| walk_at "call builtin:len") => `(tactic| (k_dflt (refine' len_own ?N ?m ?i ?l ?_; (case N => k_asm); (case m => k_mem); (case i => assumption); (case l => (simp only [List.length_replicate]; omega)))))
local macro_rules | `(tactic| walk_at "call ref") => `(tactic| (k_here; refine Hold.out ?_))
theorem in_bx {x : Int} {kn l r S : Nat} (hx0 : 0 ≤ x) (hxb : x < 2 ^ (kn * (r - l))) (hkn : kn ≤ 7000) (hr : r ≤ 100) : Bnd (x / 2 ^ S) 700000 := by
  have h1 : kn * (r - l) ≤ 7000 * 100 := Nat.mul_le_mul hkn (by omega)
  have h2 : Bnd x 700000 := Bnd.mono (Bnd.of_range hx0 hxb) h1
  have h3 := Bnd.fdiv h2 hx0 (p2 S)
  rwa [fdiv_pos_eq (p2 S)] at h3
theorem in_s {kn l r : Nat} (hkn : kn ≤ 7000) (hr : r ≤ 100) (hlr : l < r) : kn * ((l + r) / 2 - l) ≤ 1000000 := by
  have h1 : kn * ((l + r) / 2 - l) ≤ 7000 * 100 := Nat.mul_le_mul hkn (by omega)
  omega
local macro_rules | `(tactic| walk_at "mine inner") => `(tactic| (k_dflt (refine' inner_use ?k1 ?k2 ?k3 ?k4 ?k5 ?kK ?k7 ?n1 ?n2 ?n3 ?n4 ?n5 ?n6 ?kd ?ku ?all ?_; (case k1 => k_asm); (case k2 => k_asm); (case k3 => k_asm); (case k4 => k_asm); (case k5 => k_asm); (case kK => first | exact rfl | assumption); (case k7 => assumption); (case all => assumption); (case n1 => omega); (case n2 => omega); (case n3 => omega); (case n4 => omega); (case n5 => first | exact Int.emod_nonneg _ (Int.ne_of_gt (p2 _)) | exact up_nonneg _ (by assumption)); (case n6 => first | exact low_lt _ | exact up_lt (by omega) (by omega) (by assumption)); (case kd => (simp only [depth_deeper]; (try dsimp only [ktrTop]); omega)); (case ku => (simp only [units_deeper]; (try dsimp only [ktrTop]); omega)))))
section
variable {w : World} {p : Program} {loose : List Str} {mean : ExcName → Option Value} {mg mb : Str → Option Value} {dp un : Nat} {gd : Option (List Code)} {cn : Str} {cs : Scope} {a : Addr} {ccd : Value} {cl : List (Str × Addr)} {outer : List Env} {A₀ : Around} {base h₀ : Heap} {L : Addr} {m : Str → Option Value} {news : List (Addr × Obj)} {s : Shared} {Q E : Value → Shared → Prop}
abbrev i2dQ : Str := Str.ofString "_int2digits" ++ Str.ofString ".<locals>." ++ Str.ofString "inner"
abbrev i2dTab (c : Addr) : Array Value := #[] ++ #[rawInt ((44 : Nat) : Int), rawInt ((4 : Nat) : Int), .ref c]
theorem al5 {a b c d e P : Prop} (h : a ∧ b ∧ c ∧ d ∧ e ∧ P) : P := h.2.2.2.2.2
theorem al6 {a b c d e f P : Prop} (h : a ∧ b ∧ c ∧ d ∧ e ∧ f ∧ P) : P := h.2.2.2.2.2.2
theorem news_miss {h₀ h : Heap} {L : Addr} {d f c l x y z t : Addr × Obj} {r : List (Addr × Obj)} (N : News h₀ L h (d :: f :: c :: l :: x :: y :: z :: t :: r)) : News h₀ L h (d :: c :: t :: r) := fun p hp => N p (by
  rcases List.mem_cons.mp hp with rfl | hp
  · exact .head _
  rcases List.mem_cons.mp hp with rfl | hp
  · exact .tail _ (.tail _ (.head _))
  rcases List.mem_cons.mp hp with rfl | hp
  · exact .tail _ (.tail _ (.tail _ (.tail _ (.tail _ (.tail _ (.tail _ (.head _)))))))
  · exact .tail _ (.tail _ (.tail _ (.tail _ (.tail _ (.tail _ (.tail _ (.tail _ hp))))))))
theorem news_hit {h₀ h : Heap} {L : Addr} {d f l x y z : Addr × Obj} {r : List (Addr × Obj)} (N : News h₀ L h (d :: f :: l :: x :: y :: z :: r)) : News h₀ L h (d :: r) := fun p hp => N p (by
  rcases List.mem_cons.mp hp with rfl | hp
  · exact .head _
  · exact .tail _ (.tail _ (.tail _ (.tail _ (.tail _ (.tail _ hp))))))
theorem news_one' {a c : Addr × Obj} {r : List (Addr × Obj)} {h₀ h : Heap} {L : Addr} (N : News h₀ L h (a :: c :: r)) : News h₀ L h (c :: a :: r) := fun p hp => N p (by
  rcases List.mem_cons.mp hp with rfl | hp
  · exact .tail _ (.head _)
  rcases List.mem_cons.mp hp with rfl | hp
  · exact .head _
  · exact .tail _ (.tail _ hp))
local macro_rules | `(tactic| walk_at "mine nest") => `(tactic| (refine' code_nest ?k1 ?k2 ?k3 ?k4 ?k5 ?kA ?kF ?kK ?k6 ?k7 ?k8 ?k9 ?kB ?_ ?c2 ?c3 ?c4 ?c5; (case kA => exact rfl); (case kF => exact rfl); (case kK => assumption); (case k1 => k_asm); (case k2 => k_asm); (case k3 => k_asm); (case k4 => k_asm); (case k5 => k_asm); (case k6 => k_mem); (case k7 => exact codeRec_news (by k_asm) (by k_mem) (by assumption) (by assumption)); (case k8 => ktr_room); (case k9 => exact BindsTo.of_eq rfl); (case c5 => decide); (case kB => exact locs rfl); (case c2 => exact rfl); (case c3 => exact rfl); (case c4 => exact rfl); k_whole; intro g' L' h' FG' F' N' B' X' T'; (try dsimp only); (try k_fold)))
theorem c_i2d {x : Int} {t t2 : Tok} {k kn : Nat}  (B : Below A₀ base outer h₀) (F : Fr h₀ L s.heap m) (X : (hd.heap_39 w.params).In h₀) (N : News h₀ L s.heap ((60, tabObj #[]) :: news)) (T : Top p loose mean mg mb h₀) (hk : cs.kind = .function)
  (hdp : dp + 200 < recursionLimit) (hun : un + 2000 < cLine) (hch : CodeHd base 64 60) (h60 : ∀ q ∈ news, q.1 ≠ 60) (hx : 0 < x) (hkn : 0 < kn) (hkn1 : kn ≤ 7000) (hbits : ((intBits x : Int) + kn - 1).fdiv kn = (k : Int)) (hk0 : 0 < k) (hk100 : k ≤ 100) (hxk : x < 2 ^ (kn * k))
  (hret : ∀ (D c' : Addr) (oc : Obj) (fs : Array Value) (t' : Tok) (vs : List Value) (h' : Heap) (tk' : Nat), Fr h₀ L h' m → News h₀ L h' ((D, listOf vs.toArray 0) :: (c', oc) :: (60, tabObj (i2dTab c')) :: news) → oc.data = .fields fs → fs[1]? = some (.str i2dQ t') → IntsAre vs (digs kn k x) → 60 < D → D < c' → AllLt D news → AllLt c' news → Q (.ref D) { s with heap := h', toks := tk' }) :
  wpAny (model PySem.Challenge.rw_ny0110_01.row.prog w) (ktrTop dp un gd cn cs L a ccd cl outer) (call (.ref 65) [.int x t, .int (kn : Int) t2]) Q E s := by
  revert X; k_fill; intro X
  have hkl : (List.replicate k (0 : Int)).length = k := List.length_replicate
  refine wpAny_call ?_
  k_dflt (walk_at "mine enterC")
  k_steps
  · refine Hold.mk ?_
    rw [hkl]
    k_dflt (refine' inner_use (l := 0) (r := k) (kn := kn) (N₀ := k) ?k1 ?k2 ?k3 ?k4 ?k5 ?kK ?k7 ?n1 ?n2 ?n3 ?n4 ?n5 ?n6 ?kd ?ku ?all ?_; (case k1 => k_asm); (case k2 => k_asm); (case k3 => k_asm); (case k4 => exact news_two' (by k_asm)); (case k5 => k_asm); (case kK => first | exact rfl | assumption); (case k7 => assumption); (case n1 => omega); (case n2 => omega); (case n3 => omega); (case n4 => omega); (case n5 => omega); (case n6 => exact hxk); (case kd => (simp only [depth_deeper]; (try dsimp only [ktrTop]); omega)); (case ku => (simp only [units_deeper]; (try dsimp only [ktrTop]); omega)))
    case all =>
      refine inner_all ?_ _
      intro N₀ ih x₁ l₁ r₁ hN dp₁ un₁ gd₁ cn₁ cs₁ a₁ ccd₁ cl₁ outer₁ A₁ base₁ h₁ L₁ m₁ s₁ Q₁ E₁ u₁ u₂ u₃ vs₁ ns₁ B₁ F₁ X₁ N₁ T₁ hk₁ hi₁ hlr hr₁ h100 hx0 hxb hd₁ hu₁ ret₁
      have b1 := in_bx (S := kn * ((l₁ + r₁) / 2 - l₁)) hx0 hxb hkn1 (by omega)
      have b2 := in_s hkn1 (show r₁ ≤ 100 by omega) hlr
      refine wpAny_call ?_
      k_dflt (walk_at "mine nest")
      k_steps
      · exact ret₁ _ _ _ _ (by k_asm) (by k_asm) (by assumption) (by simp) (fun i => by rw [Int.toNat_natCast]; exact dig_leaf hx0 hxb (by omega) hr₁ i)
      · refine Hold.mk ?_
        walk_at "mine inner"
        intro h9 tk9 vs9 ns9 F9 N9 i9 e9 d9
        k_steps
        refine Hold.mk ?_
        walk_at "mine inner"
        intro h8 tk8 vs8 ns8 F8 N8 i8 e8 d8
        k_steps
        exact ret₁ _ _ _ _ (by k_asm) (by k_asm) (by assumption) (by omega) (dig_node (by omega) (by omega) d9 d8)
    intro h9 tk9 vs9 ns9 F9 N9 i9 e9 d9
    have z9 := digs_eq e9 hkl d9
    subst z9
    k_steps
    exact hret _ _ _ _ _ _ _ _ (by k_asm) (news_miss (by k_asm)) (by assumption) (by assumption) (by assumption) (ltN (by omega)) (ltN (by omega)) (al5 (by assumption)) (al6 (by assumption))
  · omega
theorem c_i2dH {x : Int} {t t2 : Tok} {k kn : Nat} {c0 : Addr} {oc0 : Obj} {fs0 : Array Value} {t0 : Tok} (B : Below A₀ base outer h₀) (F : Fr h₀ L s.heap m) (X : (hd.heap_39 w.params).In h₀) (N : News h₀ L s.heap ((60, tabObj (i2dTab c0)) :: (c0, oc0) :: news)) (T : Top p loose mean mg mb h₀) (hk : cs.kind = .function)
  (hdp : dp + 200 < recursionLimit) (hun : un + 2000 < cLine) (hch : CodeHd base 64 60) (ho1 : oc0.data = .fields fs0) (ho2 : fs0[1]? = some (.str i2dQ t0)) (hx : 0 < x) (hkn : 0 < kn) (hkn1 : kn ≤ 7000) (hbits : ((intBits x : Int) + kn - 1).fdiv kn = (k : Int)) (hk0 : 0 < k) (hk100 : k ≤ 100) (hxk : x < 2 ^ (kn * k))
  (hret : ∀ (D : Addr) (vs : List Value) (h' : Heap) (tk' : Nat), Fr h₀ L h' m → News h₀ L h' ((D, listOf vs.toArray 0) :: (60, tabObj (i2dTab c0)) :: (c0, oc0) :: news) → IntsAre vs (digs kn k x) → 60 < D → c0 < D → AllLt D news → Q (.ref D) { s with heap := h', toks := tk' }) :
  wpAny (model PySem.Challenge.rw_ny0110_01.row.prog w) (ktrTop dp un gd cn cs L a ccd cl outer) (call (.ref 65) [.int x t, .int (kn : Int) t2]) Q E s := by
  revert X; k_fill; intro X
  have hkl : (List.replicate k (0 : Int)).length = k := List.length_replicate
  refine wpAny_call ?_
  k_dflt (walk_at "mine enterC")
  k_steps
  · refine Hold.mk ?_
    rw [hkl]
    k_dflt (refine' inner_use (l := 0) (r := k) (kn := kn) (N₀ := k) ?k1 ?k2 ?k3 ?k4 ?k5 ?kK ?k7 ?n1 ?n2 ?n3 ?n4 ?n5 ?n6 ?kd ?ku ?all ?_; (case k1 => k_asm); (case k2 => k_asm); (case k3 => k_asm); (case k4 => exact news_one' (by k_asm)); (case k5 => k_asm); (case kK => first | exact rfl | assumption); (case k7 => assumption); (case n1 => omega); (case n2 => omega); (case n3 => omega); (case n4 => omega); (case n5 => omega); (case n6 => exact hxk); (case kd => (simp only [depth_deeper]; (try dsimp only [ktrTop]); omega)); (case ku => (simp only [units_deeper]; (try dsimp only [ktrTop]); omega)))
    case all =>
      refine inner_all ?_ _
      intro N₀ ih x₁ l₁ r₁ hN dp₁ un₁ gd₁ cn₁ cs₁ a₁ ccd₁ cl₁ outer₁ A₁ base₁ h₁ L₁ m₁ s₁ Q₁ E₁ u₁ u₂ u₃ vs₁ ns₁ B₁ F₁ X₁ N₁ T₁ hk₁ hi₁ hlr hr₁ h100 hx0 hxb hd₁ hu₁ ret₁
      have b1 := in_bx (S := kn * ((l₁ + r₁) / 2 - l₁)) hx0 hxb hkn1 (by omega)
      have b2 := in_s hkn1 (show r₁ ≤ 100 by omega) hlr
      refine wpAny_call ?_
      k_dflt (walk_at "mine nest")
      k_steps
      · exact ret₁ _ _ _ _ (by k_asm) (by k_asm) (by assumption) (by simp) (fun i => by rw [Int.toNat_natCast]; exact dig_leaf hx0 hxb (by omega) hr₁ i)
      · refine Hold.mk ?_
        walk_at "mine inner"
        intro h9 tk9 vs9 ns9 F9 N9 i9 e9 d9
        k_steps
        refine Hold.mk ?_
        walk_at "mine inner"
        intro h8 tk8 vs8 ns8 F8 N8 i8 e8 d8
        k_steps
        exact ret₁ _ _ _ _ (by k_asm) (by k_asm) (by assumption) (by omega) (dig_node (by omega) (by omega) d9 d8)
    intro h9 tk9 vs9 ns9 F9 N9 i9 e9 d9
    have z9 := digs_eq e9 hkl d9
    subst z9
    k_steps
    exact hret _ _ _ _ (by k_asm) (news_hit (by k_asm)) (by assumption) (ltN (by omega)) (ltN (by omega)) (al6 (by assumption))
  · omega
end
end Mine
end
section
theorem Mine.rsB8 : True := by w_top off; exact True.intro
open PySem PySem.W PyProof.Rows
set_option maxRecDepth 100000
set_option maxHeartbeats 8000000
set_option linter.unusedVariables false
namespace Mine
open PySem.Builtin.Int (intBits)
open PySem.Builtin (bitAnd bitOr bitXor)
section
def InnerD (w : World) (p : Program) (loose : List Str) (mean : ExcName → Option Value) (mg mb : Str → Option Value) (f : Addr) (led : List (Addr × Obj)) (kn : Nat) (ns : List Int) (N : Nat) : Prop :=
  ∀ (l r : Nat), r - l ≤ N → ∀ (dp un : Nat) (gd : Option (List Code)) (cn : Str) (cs : Scope) (a : Addr) (ccd : Value) (cl : List (Str × Addr)) (outer : List Env) (A₀ : Around) (base h₀ : Heap) (L : Addr) (m : Str → Option Value) (s : Shared) (Q E : Value → Shared → Prop) (t2 t3 : Tok),
    Below A₀ base outer h₀ → Fr h₀ L s.heap m → (hd.heap_39 w.params).In h₀ → News h₀ L s.heap led → Top p loose mean mg mb h₀ → cs.kind = .function →
    l < r → r ≤ ns.length → dp + N + 1 < recursionLimit → un + 8 * (N + 1) < cLine →
    (∀ (t' : Tok) (h' : Heap) (tk' : Nat), Fr h₀ L h' m → News h₀ L h' led → Q (.int (valD kn ns l (r - l)) t') { s with heap := h', toks := tk' }) →
    wpAny (model PySem.Challenge.rw_ny0110_01.row.prog w) (ktrTop dp un gd cn cs L a ccd cl outer) (call (.ref f) [.int (l : Int) t2, .int (r : Int) t3]) Q E s
theorem innerD_all {w : World} {p : Program} {loose : List Str} {mean : ExcName → Option Value} {mg mb : Str → Option Value} {f : Addr} {led : List (Addr × Obj)} {kn : Nat} {ns : List Int}
    (step : ∀ N, InnerD w p loose mean mg mb f led kn ns N → InnerD w p loose mean mg mb f led kn ns (N + 1)) : ∀ N, InnerD w p loose mean mg mb f led kn ns N
  | 0 => by
    intro l r h dp un gd cn cs a ccd cl outer A₀ base h₀ L m s Q E t2 t3 B F X N T hk hlr
    omega
  | N + 1 => step N (innerD_all step N)
theorem innerD_use {w : World} {p : Program} {loose : List Str} {mean : ExcName → Option Value} {mg mb : Str → Option Value} {f : Addr} {led : List (Addr × Obj)} {kn : Nat} {ns : List Int}
    {l r N₀ : Nat} {dp un : Nat} {gd : Option (List Code)} {cn : Str} {cs : Scope} {a : Addr} {ccd : Value} {cl : List (Str × Addr)} {outer : List Env} {A₀ : Around} {base h₀ : Heap} {L : Addr} {m : Str → Option Value} {s : Shared} {Q E : Value → Shared → Prop} {t2 t3 : Tok}
    (B : Below A₀ base outer h₀) (F : Fr h₀ L s.heap m) (X : (hd.heap_39 w.params).In h₀) (N : News h₀ L s.heap led) (T : Top p loose mean mg mb h₀) (hk : cs.kind = .function)
    (hN : r - l ≤ N₀) (hlr : l < r) (hr : r ≤ ns.length) (hdp : dp + N₀ + 1 < recursionLimit) (hun : un + 8 * (N₀ + 1) < cLine)
    (all : InnerD w p loose mean mg mb f led kn ns N₀)
    (ret : ∀ (t' : Tok) (h' : Heap) (tk' : Nat), Fr h₀ L h' m → News h₀ L h' led → Q (.int (valD kn ns l (r - l)) t') { s with heap := h', toks := tk' }) :
    wpAny (model PySem.Challenge.rw_ny0110_01.row.prog w) (ktrTop dp un gd cn cs L a ccd cl outer) (call (.ref f) [.int (l : Int) t2, .int (r : Int) t3]) Q E s :=
  all l r hN dp un gd cn cs a ccd cl outer A₀ base h₀ L m s Q E t2 t3 B F X N T hk hlr hr hdp hun ret
section
variable {prog : Program} {w : World} {A : Around} {E : Value → Shared → Prop} {s : Shared} {t u : Tok} {h₀ : Heap} {L : Addr} {m : Str → Option Value} {news : List (Addr × Obj)}
theorem truthy_own {D : Addr} {vs : List Value} {ns : List Int} {e : Nat} {Q : Bool → Shared → Prop} (N : News h₀ L s.heap news) (hm : (D, listOf vs.toArray e) ∈ news) (hi : IntsAre vs ns) (h0 : 0 < ns.length) (hl : ns.length ≤ 1000000) (h : ∀ tk, Q true { s with toks := tk }) :
    wpAny (model prog w) A (truthy (.ref D)) Q E s := by
  have hv : vs.length = ns.length := hi.length
  refine wpAny_truthy_list (PySem.IsL.isList (n := e) (N _ hm).1) (by rw [List.size_toArray, hv]; omega) ?_
  have e : (!vs.toArray.isEmpty) = true := by
    cases vs with
    | nil => simp at hv; omega
    | cons a r => rfl
  rw [e]
  exact h _
end
local macro_rules | `(tactic| k_all) => `(tactic| first | exact List.forall_mem_nil _ | with_reducible assumption | exact all_ne (by with_reducible assumption) (by first | exact Nat.le_refl _ | omega) | (refine' List.forall_mem_cons.mpr ⟨?a, ?b⟩; (case a => k_ne); (case b => k_all)))
local macro_rules | `(tactic| walk_at "mine enterC") => `(tactic| (refine' code_defC ?k1 ?k2 ?k3 ?k4 ?k5 ?kA ?kF ?kK ?k6 ?k7 ?k8 ?k9 ?kB ?kD ?_ ?c2 ?c3 ?c4; (case kA => exact rfl); (case kF => exact rfl); (case kK => assumption); (case k1 => k_asm); (case k2 => k_asm); (case k3 => k_asm); (case k4 => k_asm); (case k5 => k_asm); (case k6 => k_is); (case k7 => k_is); (case k8 => ktr_room); (case k9 => exact BindsTo.of_eq rfl); (case kB => exact rfl); (case kD => decide +kernel); (case c2 => exact rfl); (case c3 => exact rfl); (case c4 => exact rfl); k_whole; intro g' L' h' tk' cells' FG' F' N' Y' B' X' T' l1; (try k_lt l1); (try obtain ⟨l2, l3⟩ := l1); (try obtain ⟨l4, l5⟩ := l3); k_cells Y'; (try simp only [List.cons_append, List.nil_append] at N'); (try dsimp only); (try k_lift B'); (try k_fold)))
local macro_rules | `(tactic| walk_at "mine nest") => `(tactic| (refine' code_nest ?k1 ?k2 ?k3 ?k4 ?k5 ?kA ?kF ?kK ?k6 ?k7 ?k8 ?k9 ?kB ?_ ?c2 ?c3 ?c4 ?c5; (case kA => exact rfl); (case kF => exact rfl); (case kK => assumption); (case k1 => k_asm); (case k2 => k_asm); (case k3 => k_asm); (case k4 => k_asm); (case k5 => k_asm); (case k6 => k_mem); (case k7 => exact codeRec_news (by k_asm) (by k_mem) (by assumption) (by assumption)); (case k8 => ktr_room); (case k9 => exact BindsTo.of_eq rfl); (case c5 => decide); (case kB => exact locs rfl); (case c2 => exact rfl); (case c3 => exact rfl); (case c4 => exact rfl); k_whole; intro g' L' h' FG' F' N' B' X' T'; (try dsimp only); (try k_fold)))
local macro_rules | `(tactic| walk_at "binaryOp RShift int int") => `(tactic| (with_reducible (first | (refine rsh_mid ?_) | (refine rsh_nat ?_))))
local macro_rules | `(tactic| walk_at "binaryOp LShift int int") => `(tactic| ((with_reducible refine' lsh_nat ?a ?b ?c ?_); (case a => with_reducible assumption); (case b => decide); (case c => with_reducible assumption)))
local macro_rules | `(tactic| walk_at "binaryOp Mult int int") => `(tactic| ((with_reducible refine' mul_mid ?a ?b ?_); (case a => omega); (case b => omega)))
local macro_rules | `(tactic| walk_at "call builtin:len") => `(tactic| (k_dflt (refine' len_own ?N ?m ?i ?l ?_; (case N => k_asm); (case m => k_mem); (case i => assumption); (case l => omega))))
local macro_rules | `(tactic| walk_at "truthy ref") => `(tactic| (k_dflt (refine' truthy_own ?N ?m ?i ?z ?l ?_; (case N => k_asm); (case m => k_mem); (case i => assumption); (case z => omega); (case l => omega); intro tk9)))
local macro_rules | `(tactic| walk_at "call ref") => `(tactic| (k_here; refine Hold.out ?_))
local macro_rules | `(tactic| walk_at "mine inner") => `(tactic| (k_dflt (refine' innerD_use ?k1 ?k2 ?k3 ?k4 ?k5 ?kK ?n1 ?n2 ?n3 ?kd ?ku ?all ?_; (case k1 => k_asm); (case k2 => k_asm); (case k3 => k_asm); (case k4 => k_asm); (case k5 => k_asm); (case kK => first | exact rfl | assumption); (case all => assumption); (case n1 => omega); (case n2 => omega); (case n3 => omega); (case kd => (simp only [depth_deeper]; (try dsimp only [ktrTop]); omega)); (case ku => (simp only [units_deeper]; (try dsimp only [ktrTop]); omega)))))
theorem news_d2i {h₀ h : Heap} {L : Addr} {f c x y z : Addr × Obj} {r : List (Addr × Obj)} (N : News h₀ L h (f :: c :: x :: y :: z :: r)) : News h₀ L h r := fun p hp => N p (.tail _ (.tail _ (.tail _ (.tail _ (.tail _ hp)))))
abbrev d2iQ : Str := Str.ofString "_digits2int" ++ Str.ofString ".<locals>." ++ Str.ofString "inner"
abbrev d2iTab (c : Addr) : Array Value := #[] ++ #[rawInt ((59 : Nat) : Int), rawInt ((4 : Nat) : Int), .ref c]
variable {w : World} {p : Program} {loose : List Str} {mean : ExcName → Option Value} {mg mb : Str → Option Value} {dp un : Nat} {gd : Option (List Code)} {cn : Str} {cs : Scope} {a : Addr} {ccd : Value} {cl : List (Str × Addr)} {outer : List Env} {A₀ : Around} {base h₀ : Heap} {L : Addr} {m : Str → Option Value} {news : List (Addr × Obj)} {s : Shared} {Q E : Value → Shared → Prop}
theorem c_d2i {D : Addr} {vs : List Value} {ns : List Int} {e : Nat} {t2 : Tok} {k kn : Nat} (B : Below A₀ base outer h₀) (F : Fr h₀ L s.heap m) (X : (hd.heap_39 w.params).In h₀) (N : News h₀ L s.heap ((67, tabObj #[]) :: (D, listOf vs.toArray e) :: news)) (T : Top p loose mean mg mb h₀) (hk : cs.kind = .function)
  (hdp : dp + 200 < recursionLimit) (hun : un + 2000 < cLine) (hch : CodeHd base 71 67) (h67 : ∀ q ∈ news, q.1 ≠ 67) (hD : @LT.lt Nat _ 67 D) (hi : IntsAre vs ns) (hkl : ns.length = k) (hkn : 0 < kn) (hkn1 : kn ≤ 7000) (hk0 : 0 < k) (hk100 : k ≤ 100) (hds : DigOk kn ns)
  (hret : ∀ (c' : Addr) (t' : Tok) (h' : Heap) (tk' : Nat), Fr h₀ L h' m → News h₀ L h' ((67, tabObj (d2iTab c')) :: (D, listOf vs.toArray e) :: news) → Q (.int (valD kn ns 0 k) t') { s with heap := h', toks := tk' }) :
  wpAny (model PySem.Challenge.rw_ny0110_01.row.prog w) (ktrTop dp un gd cn cs L a ccd cl outer) (call (.ref 72) [.ref D, .int (kn : Int) t2]) Q E s := by
  revert X; k_fill; intro X
  refine wpAny_call ?_
  k_dflt (walk_at "mine enterC")
  k_steps
  · refine Hold.mk ?_
    rw [hkl]
    k_dflt (refine' innerD_use (l := 0) (r := k) (kn := kn) (ns := ns) (N₀ := k) ?k1 ?k2 ?k3 ?k4 ?k5 ?kK ?n1 ?n2 ?n3 ?kd ?ku ?all ?_; (case k1 => k_asm); (case k2 => k_asm); (case k3 => k_asm); (case k4 => k_asm); (case k5 => k_asm); (case kK => first | exact rfl | assumption); (case n1 => omega); (case n2 => omega); (case n3 => omega); (case kd => (simp only [depth_deeper]; (try dsimp only [ktrTop]); omega)); (case ku => (simp only [units_deeper]; (try dsimp only [ktrTop]); omega)))
    case all =>
      refine innerD_all ?_ _
      intro N₀ ih l₁ r₁ hN dp₁ un₁ gd₁ cn₁ cs₁ a₁ ccd₁ cl₁ outer₁ A₁ base₁ h₁ L₁ m₁ s₁ Q₁ E₁ u₂ u₃ B₁ F₁ X₁ N₁ T₁ hk₁ hlr hr₁ hd₁ hu₁ ret₁
      have b1 : Bnd (valD kn ns ((l₁ + r₁) / 2) (r₁ - (l₁ + r₁) / 2)) 700000 := valD_bnd hds _ hkn1 (by omega)
      have b2 := in_s hkn1 (show r₁ ≤ 100 by omega) hlr
      refine wpAny_call ?_
      k_dflt (walk_at "mine nest")
      k_steps
      · rw [Int.toNat_natCast, valD_leaf (kn := kn) (ns := ns) (l := l₁) (r := r₁) (by omega)]
        exact ret₁ _ _ _ (by k_asm) (by k_asm)
      · refine Hold.mk ?_
        walk_at "mine inner"
        intro v9 h9 tk9 F9 N9
        k_steps
        refine Hold.mk ?_
        walk_at "mine inner"
        intro v8 h8 tk8 F8 N8
        k_steps
        rw [valD_node (by omega) (by omega)]
        exact ret₁ _ _ _ (by k_asm) (by k_asm)
    intro v9 h9 tk9 F9 N9
    k_steps
    exact hret _ _ _ _ (by k_asm) (news_d2i (by k_asm))
end
end Mine
end
section
theorem Mine.rsM4 : True := by w_top off; exact True.intro
open PySem PySem.W PyProof.Rows
set_option maxRecDepth 100000
set_option maxHeartbeats 8000000
set_option linter.unusedVariables false
namespace Mine
open PySem.Builtin.Int (intBits)
open PySem.Builtin (bitAnd bitOr bitXor)
/-- digits from the highest down, put together -/
def valR (kn : Nat) : List Int → Int := List.foldl (fun a q => a * 2 ^ kn + q) 0
theorem valR_snoc (kn : Nat) (l : List Int) (q : Int) : valR kn (l ++ [q]) = valR kn l * 2 ^ kn + q := by
  unfold valR; rw [List.foldl_append]; rfl
theorem valD_cons (kn : Nat) (q : Int) (l : List Int) : ∀ c i, valD kn (q :: l) (i + 1) c = valD kn l i c
  | 0, i => rfl
  | c + 1, i => by
    rw [valD, valD, valD_cons kn q l c (i + 1)]
    simp
theorem valD_rev (kn : Nat) : ∀ l : List Int, valD kn l.reverse 0 l.length = valR kn l := by
  intro l
  rw [← List.reverse_reverse l]
  generalize l.reverse = r
  induction r with
  | nil => rfl
  | cons q r ih =>
    rw [List.reverse_reverse] at ih ⊢
    rw [List.reverse_cons, valR_snoc, ← ih, List.length_append, List.length_cons, List.length_nil, Nat.zero_add, valD, valD_cons, List.length_reverse]
    simp only [List.getD_cons_zero]
    grind
/-- what holds between the turns of _divmod_pos -/
structure DmI (x b : Int) (kn : Nat) (ds : List Int) (R : Int) (nq : List Int) : Prop where
  r0 : 0 ≤ R
  rb : R < b
  eq : valR kn nq * b + R = x / 2 ^ (kn * ds.length)
  ok : DigOk kn nq
  rest : ds = (digs kn ds.length x).reverse
theorem digs_succ (kn j : Nat) (x : Int) : (digs kn (j + 1) x).reverse = dig kn x j :: (digs kn j x).reverse := by
  unfold digs; rw [List.range_succ, List.map_append, List.reverse_append]; rfl
theorem digs_len (kn j : Nat) (x : Int) : (digs kn j x).length = j := by simp [digs]
theorem dm_start {x b : Int} {kn k : Nat} (hb : 0 < b) (hx : 0 ≤ x) (hk : x < 2 ^ (kn * k)) : DmI x b kn (digs kn k x).reverse 0 [] := by
  have hl : (digs kn k x).reverse.length = k := by rw [List.length_reverse, digs_len]
  refine ⟨Int.le_refl _, hb, ?_, fun d hd => absurd hd List.not_mem_nil, by rw [hl]⟩
  rw [hl, Int.ediv_eq_zero_of_lt hx hk]
  simp [valR]
section
variable {x b : Int} {kn : Nat} {d : Int} {ds : List Int} {R : Int} {nq : List Int}
theorem dm_d (I : DmI x b kn (d :: ds) R nq) : d = dig kn x ds.length ∧ ds = (digs kn ds.length x).reverse := by
  have h := I.rest
  rw [List.length_cons, digs_succ] at h
  injection h with h1 h2
  exact ⟨h1, h2⟩
theorem dm_rng (I : DmI x b kn (d :: ds) R nq) : 0 ≤ d ∧ d < 2 ^ kn := by
  rw [(dm_d I).1]
  exact ⟨Int.emod_nonneg _ (Int.ne_of_gt (p2 _)), Int.emod_lt_of_pos _ (p2 _)⟩
theorem dm_x0 (I : DmI x b kn (d :: ds) R nq) : 0 ≤ R * 2 ^ kn + d := by
  have := Int.mul_nonneg I.r0 (Int.le_of_lt (p2 kn))
  have := dm_rng I
  omega
theorem dm_xb (I : DmI x b kn (d :: ds) R nq) : R * 2 ^ kn + d < b * 2 ^ kn := by
  have h1 := dm_rng I
  have h2 : R * 2 ^ kn ≤ (b - 1) * 2 ^ kn := Int.mul_le_mul_of_nonneg_right (by have := I.rb; omega) (Int.le_of_lt (p2 kn))
  have h3 : (b - 1) * 2 ^ kn = b * 2 ^ kn - 2 ^ kn := by rw [Int.sub_mul, Int.one_mul]
  omega
theorem dm_turn (hb : 0 < b) (I : DmI x b kn (d :: ds) R nq) : DmI x b kn ds ((R * 2 ^ kn + d).fmod b) (nq ++ [(R * 2 ^ kn + d).fdiv b]) := by
  have h0 := dm_x0 I
  have h1 := dm_xb I
  obtain ⟨e1, e2⟩ := dm_d I
  refine ⟨Int.fmod_nonneg_of_pos _ hb, Int.fmod_lt_of_pos _ hb, ?_, ?_, e2⟩
  · have h2 := Int.mul_fdiv_add_fmod (R * 2 ^ kn + d) b
    have h3 := I.eq
    rw [List.length_cons] at h3
    have h4 : x / 2 ^ (kn * ds.length) = x / 2 ^ (kn * (ds.length + 1)) * 2 ^ kn + d := by
      rw [e1]
      unfold dig
      rw [Nat.mul_add, Nat.mul_one, Int.pow_add, ← Int.ediv_ediv_of_nonneg (Int.le_of_lt (p2 _))]
      have := Int.mul_ediv_add_emod (x / 2 ^ (kn * ds.length)) (2 ^ kn)
      rw [Int.mul_comm] at this
      exact this.symm
    rw [h4, ← h3, valR_snoc]
    generalize (R * 2 ^ kn + d).fdiv b = q at *
    generalize (R * 2 ^ kn + d).fmod b = r at *
    generalize (2 : Int) ^ kn = P at *
    generalize valR kn nq = V at *
    clear h3 h4 e1 e2 I
    grind
  · intro y hy
    rcases List.mem_append.mp hy with hy | hy
    · exact I.ok y hy
    · rw [List.mem_singleton.mp hy, fdiv_pos_eq hb]
      refine ⟨Int.ediv_nonneg h0 (Int.le_of_lt hb), Int.ediv_lt_of_lt_mul hb ?_⟩
      rw [Int.mul_comm (2 ^ kn) b]; exact h1
theorem dm_end (I : DmI x b kn [] R nq) : valR kn nq = x.fdiv b ∧ R = x.fmod b := by
  have h := I.eq
  simp only [List.length_nil, Nat.mul_zero, Int.pow_zero, Int.ediv_one] at h
  exact d3_end h (by have := I.r0; omega) I.rb
end
theorem bits_norm {b : Int} {kn : Nat} (hb : 0 < b) (h : intBits b = kn) : 2 ^ (kn - 1) ≤ b ∧ b < 2 ^ kn := by
  have h1 : b.natAbs < 2 ^ kn := by rw [← h]; exact natAbs_lt_pow_bits b
  have e : ((b.natAbs : Nat) : Int) = b := by omega
  have h2 : 2 ^ (kn - 1) ≤ b.natAbs := by
    have hne : b.natAbs ≠ 0 := by omega
    unfold intBits at h
    rw [if_neg (by simp; omega)] at h
    rw [← h, Nat.add_sub_cancel]
    exact Nat.log2_self_le hne
  have c1 := cast_p2 kn
  have c2 := cast_p2 (kn - 1)
  omega
end Mine
end
section
theorem Mine.rsB9 : True := by w_top off; exact True.intro
open PySem PySem.W PyProof.Rows
set_option maxRecDepth 100000
set_option maxHeartbeats 8000000
set_option linter.unusedVariables false
namespace Mine
open PySem.Builtin.Int (intBits)
open PySem.Builtin (bitAnd bitOr bitXor)
section
variable {w : World} {p : Program} {loose : List Str} {mean : ExcName → Option Value} {mg mb : Str → Option Value} {dp un : Nat} {gd : Option (List Code)} {cn : Str} {cs : Scope} {a : Addr} {ccd : Value} {cl : List (Str × Addr)} {outer : List Env} {A₀ : Around} {base h₀ : Heap} {L : Addr} {m : Str → Option Value} {news : List (Addr × Obj)} {s : Shared} {Q E : Value → Shared → Prop}
/-- _div2n1n by either road -/
theorem c_div {x b : Int} {kn : Nat} {t t2 t3 : Tok} (B : Below A₀ base outer h₀) (F : Fr h₀ L s.heap m) (X : (hd.heap_39 w.params).In h₀) (N : News h₀ L s.heap news) (T : Top p loose mean mg mb h₀) (hk : cs.kind = .function)
  (hdp : dp + 5 < recursionLimit) (hun : un + 40 < cLine) (hkn1 : kn ≤ 6500) (hx : 0 ≤ x) (hxb : x < b * 2 ^ kn) (hb0 : 2 ^ (kn - 1) ≤ b) (hb1 : b < 2 ^ kn)
  (hret : ∀ (D : Addr) (t1 t2 : Tok) (c : Nat) (h' : Heap) (tk' : Nat), Fr h₀ L h' m → News h₀ L h' ((D, tup2 (x.fdiv b) (x.fmod b) t1 t2 c) :: news) → AllLt D news → Q (.ref D) { s with heap := h', toks := tk' }) :
  wpAny (model PySem.Challenge.rw_ny0110_01.row.prog w) (ktrTop dp un gd cn cs L a ccd cl outer) (call (.ref 51) [.int x t, .int b t2, .int (kn : Int) t3]) Q E s := by
  have hb : 0 < b := Int.lt_of_lt_of_le (p2 _) hb0
  by_cases hs : (intBits x : Int) - (kn : Int) ≤ 4000
  · exact c_div0 B F X N T hk (by omega) (by omega) hb hs ((Bnd.of_range (Int.le_of_lt hb) hb1).log (by omega)) hret
  · have hb2 : Bnd x (kn + kn) := by
      refine Bnd.of_range hx ?_
      rw [Int.pow_add]
      exact Int.lt_of_lt_of_le hxb (Int.mul_le_mul_of_nonneg_right (Int.le_of_lt hb1) (Int.le_of_lt (p2 _)))
    have := hb2.bits
    have e : ((kn : Int)).toNat = kn := Int.toNat_natCast _
    exact c_div2 B F X N T hk hdp hun (by omega) (by omega) hx (by rw [e]; exact hxb) (by rw [e]; exact hb0) (by rw [e]; exact hb1) hs hret

section
variable {prog : Program} {w : World} {A : Around} {E : Value → Shared → Prop} {s : Shared} {env : Env} {h₀ : Heap} {x : Str} {body : List Stmt} {Q : Flow → Shared → Prop} {I ax : Addr}
theorem unrPost_mono {L : Addr} {s₁ : Shared} {it : Obj} {R R' : (Str → Option Value) → List (Addr × Obj) → Prop} (h : ∀ m n, R m n → R' m n) {f : Flow} {s₂ : Shared} (q : UnrPost h₀ L s₁ I it R Q f s₂) : UnrPost h₀ L s₁ I it R' Q f s₂ := by
  have key : UnrEnd h₀ L s₁ I it R s₂ → UnrEnd h₀ L s₁ I it R' s₂ := fun ⟨h', tk, m', n', e, F, N, o, r⟩ => ⟨h', tk, m', n', e, F, N, o, h _ _ r⟩
  cases f with
  | ret v => exact q
  | brk => exact q
  | next => exact key q
  | cont => exact key q
theorem rev_loop {lp : Addr × Obj} {J : List Value → (Str → Option Value) → List (Addr × Obj) → Prop} (hJ : ∀ items m news, J items m news → lp ∈ news)
    (turn : ∀ v r m news, J (v :: r) m news → ∀ (it : Obj) h tk, it.cls = .type "list_reverseiterator" → Fr h₀ env.locals h (fun y => if y = x then some v else m y) → News h₀ env.locals h ((I, it) :: news) →
      wpAny (model prog w) A (execs body env) (UnrPost h₀ env.locals { s with heap := h, toks := tk } I it (fun m' n' => J r m' n') Q) E { s with heap := h, toks := tk })
    (fin : ∀ m news, J [] m news → ∀ h tk, Fr h₀ env.locals h m → News h₀ env.locals h news → Q .next { s with heap := h, toks := tk }) :
    ∀ items m news, J items m news → RevRest prog w A E h₀ env x body Q s I lp items m news
  | [], m, news, j => fun h tk F N => fin m news j h tk F N
  | v :: r, m, news, j => fun it h tk hc F N => wpAny_mono (turn v r m news j it h tk hc F N) (fun _ _ q => unrPost_mono (fun m' n' j' => ⟨hJ _ _ _ j', rev_loop hJ turn fin r m' n' j'⟩) q) fun _ _ e => e
theorem offI_lt {it : Obj} : ∀ {l : List (Addr × Obj)}, AllLt I l → OffI I it l
  | [], _ => trivial
  | p :: r, h => ⟨.inl (Nat.ne_of_lt h.1), offI_lt h.2⟩
theorem rev_use {vs : List Value} {e : Nat} {m₀ : Str → Option Value} {news : List (Addr × Obj)} {J : List Value → (Str → Option Value) → List (Addr × Obj) → Prop}
    (hh : A.handled = none) (F : Fr h₀ env.locals s.heap m₀) (N : News h₀ env.locals s.heap ((I, revObj ax ((vs.length : Int) - 1)) :: news)) (hof : AllLt I news) (start : J vs.reverse m₀ news) (hJ : ∀ items m news, J items m news → (ax, listOf vs.toArray e) ∈ news)
    (turn : ∀ v r m news, J (v :: r) m news → ∀ (it : Obj) h tk, it.cls = .type "list_reverseiterator" → Fr h₀ env.locals h (fun y => if y = x then some v else m y) → News h₀ env.locals h ((I, it) :: news) →
      wpAny (model prog w) A (execs body env) (UnrPost h₀ env.locals { s with heap := h, toks := tk } I it (fun m' n' => J r m' n') Q) E { s with heap := h, toks := tk })
    (fin : ∀ m news, J [] m news → ∀ h tk, Fr h₀ env.locals h m → News h₀ env.locals h news → Q .next { s with heap := h, toks := tk }) :
    wpAny (model prog w) A (pyIter (.ref I)) (fun it s₂ => LoopAtV prog w A h₀ env x body Q E it s₂) E s :=
  iter_revUnr hh F N (offI_lt hof) (hJ _ _ _ start) rfl rfl (rev_loop hJ turn fin _ _ _ start)
end
/-- between the turns: the frame and the ledger -/
def DmJ (x b : Int) (kn k : Nat) (tb tn : Tok) (Dq : Addr) (rest : List (Addr × Obj)) (items : List Value) (m : Str → Option Value) (news : List (Addr × Obj)) : Prop :=
  ∃ (ds : List Int) (R : Int) (tr : Tok) (vq : List Value) (nq : List Int) (e : Nat), IntsAre items ds ∧ m (Str.ofString "r") = some (.int R tr) ∧ m (Str.ofString "b") = some (.int b tb) ∧ m (Str.ofString "n") = some (.int (kn : Int) tn) ∧ m (Str.ofString "q_digits") = some (.ref Dq) ∧
    news = (Dq, listOf vq.toArray e) :: rest ∧ IntsAre vq nq ∧ DmI x b kn ds R nq ∧ nq.length + ds.length = k
theorem ints_rev {vs : List Value} {ns : List Int} (h : IntsAre vs ns) : IntsAre vs.reverse ns.reverse := by
  induction h with
  | nil => exact .nil
  | cons i t _ ih => rw [List.reverse_cons, List.reverse_cons]; exact IntsAre.append ih (.cons i t .nil)
theorem rev_use_dm {prog : Program} {w : World} {A : Around} {E : Value → Shared → Prop} {s : Shared} {env : Env} {h₀ : Heap} {xn : Str} {body : List Stmt} {Q : Flow → Shared → Prop} {I ax Dq : Addr} {x b : Int} {kn k : Nat} {tb tn tr : Tok} {rest : List (Addr × Obj)} {vs : List Value} {e e0 : Nat} {m₀ : Str → Option Value}
    (hh : A.handled = none) (F : Fr h₀ env.locals s.heap m₀) (N : News h₀ env.locals s.heap ((I, revObj ax ((vs.length : Int) - 1)) :: (Dq, listOf #[] e0) :: rest)) (hof : AllLt I ((Dq, listOf #[] e0) :: rest)) (hm : (ax, listOf vs.toArray e) ∈ rest)
    (m1 : m₀ (Str.ofString "r") = some (.int 0 tr)) (m2 : m₀ (Str.ofString "b") = some (.int b tb)) (m3 : m₀ (Str.ofString "n") = some (.int (kn : Int) tn)) (m4 : m₀ (Str.ofString "q_digits") = some (.ref Dq)) (hi : IntsAre vs (digs kn k x)) (hds : DmI x b kn (digs kn k x).reverse 0 [])
    (turn : ∀ v r m news, DmJ x b kn k tb tn Dq rest (v :: r) m news → ∀ (it : Obj) h tk, it.cls = .type "list_reverseiterator" → Fr h₀ env.locals h (fun y => if y = xn then some v else m y) → News h₀ env.locals h ((I, it) :: news) →
      wpAny (model prog w) A (execs body env) (UnrPost h₀ env.locals { s with heap := h, toks := tk } I it (fun m' n' => DmJ x b kn k tb tn Dq rest r m' n') Q) E { s with heap := h, toks := tk })
    (fin : ∀ m news, DmJ x b kn k tb tn Dq rest [] m news → ∀ h tk, Fr h₀ env.locals h m → News h₀ env.locals h news → Q .next { s with heap := h, toks := tk }) :
    wpAny (model prog w) A (pyIter (.ref I)) (fun it s₂ => LoopAtV prog w A h₀ env xn body Q E it s₂) E s :=
  rev_use (J := DmJ x b kn k tb tn Dq rest) (e := e) hh F N hof ⟨_, _, _, [], [], _, ints_rev hi, m1, m2, m3, m4, rfl, .nil, hds, by simp [digs_len]⟩
    (fun _ _ _ ⟨_, _, _, _, _, _, _, _, _, _, _, hn, _⟩ => by rw [hn]; exact .tail _ hm) turn fin
theorem al4 {a b c d : Prop} {e : Nat} {l : List (Addr × Obj)} (h : a ∧ b ∧ c ∧ d ∧ AllLt e l) : AllLt e l := h.2.2.2.2
theorem unr_dm {h₀ : Heap} {L I D9 : Addr} {it o9 : Obj} {rest : (Str → Option Value) → List (Addr × Obj) → Prop} {s₁ : Shared} {h' : Heap} {tk : Nat} {m' : Str → Option Value} {news' : List (Addr × Obj)} (F : Fr h₀ L h' m') (N : News h₀ L h' ((D9, o9) :: (I, it) :: news'))
    (off : AllLt I news') (r : rest m' news') : UnrEnd h₀ L s₁ I it rest { s₁ with heap := h', toks := tk } :=
  UnrEnd.intro F N news' (fun _ hp => .tail _ hp) (fun p hp => Nat.ne_of_lt (ktn_ltOf off p hp)) r
local macro_rules | `(tactic| k_all) => `(tactic| first | exact List.forall_mem_nil _ | with_reducible assumption | exact all_ne (by with_reducible assumption) (by first | exact Nat.le_refl _ | omega) | (refine' List.forall_mem_cons.mpr ⟨?a, ?b⟩; (case a => k_ne); (case b => k_all)))
local macro_rules | `(tactic| walk_at "binaryOp LShift int int") => `(tactic| ((with_reducible refine' lsh_nat ?a ?b ?c ?_); (case a => with_reducible assumption); (case b => decide); (case c => with_reducible assumption)))
local macro_rules | `(tactic| walk_at "eval Name") => `(tactic| (k_here; k_dflt (refine' ld ?k1 ?k2 ?_; (case k1 => k_asm); (case k2 => assumption); k_whole)))
local macro_rules | `(tactic| walk_at "call builtin:list.reverse") => `(tactic| (k_dflt (refine' kl_reverse ?F ?N ?e ?U ?z ?_; (case F => k_asm); (case N => k_asm); (case e => rfl); (case U => k_upd); (case z => assumption); intro h' F' N')))
theorem news_67 {h₀ h : Heap} {L : Addr} {q d c e t : Addr × Obj} {r : List (Addr × Obj)} (N : News h₀ L h (q :: d :: c :: e :: t :: r)) : News h₀ L h (t :: q :: d :: c :: e :: r) := fun p hp => N p (by
  simp only [List.mem_cons] at hp ⊢
  rcases hp with h | h | h | h | h | h <;> simp [h])
theorem news_dm {h₀ h : Heap} {L : Addr} {z q d c e t : Addr × Obj} {r : List (Addr × Obj)} (N : News h₀ L h (z :: t :: q :: d :: c :: e :: r)) : News h₀ L h (z :: e :: c :: t :: r) := fun p hp => N p (by
  simp only [List.mem_cons] at hp ⊢
  rcases hp with h | h | h | h | h <;> simp [h])
theorem al_dm {D a q d c e : Nat} {o1 o2 o3 : Obj} {l : List (Addr × Obj)} (h : a < D ∧ q < D ∧ d < D ∧ c < D ∧ e < D ∧ AllLt D l) : AllLt D ((e, o1) :: (c, o2) :: (a, o3) :: l) := ⟨h.2.2.2.2.1, h.2.2.2.1, h.1, h.2.2.2.2.2⟩
local macro_rules | `(tactic| walk_at "mine enter") => `(tactic| (refine' code_def ?k1 ?k2 ?k3 ?k4 ?k5 ?kA ?kF ?kK ?k6 ?k7 ?k8 ?k9 ?kB ?_ ?c2 ?c3 ?c4 ?c5; (case kA => exact rfl); (case kF => exact rfl); (case kK => assumption); (case k1 => k_asm); (case k2 => k_asm); (case k3 => k_asm); (case k4 => k_asm); (case k5 => k_asm); (case k6 => k_is); (case k7 => k_is); (case k8 => ktr_room); (case k9 => exact BindsTo.of_eq rfl); (case c5 => decide); (case kB => exact locs rfl); (case c2 => exact rfl); (case c3 => exact rfl); (case c4 => exact rfl); k_whole; intro g' L' h' FG' F' N' B' X' T'; (try dsimp only); (try k_lift B'); (try k_fold)))
local macro_rules | `(tactic| walk_at "call ref") => `(tactic| (k_here; refine Hold.out ?_))
theorem c_dm {x b : Int} {t t2 : Tok} {k kn : Nat} (B : Below A₀ base outer h₀) (F : Fr h₀ L s.heap m) (X : (hd.heap_39 w.params).In h₀) (N : News h₀ L s.heap ((60, tabObj #[]) :: (67, tabObj #[]) :: news)) (T : Top p loose mean mg mb h₀) (hk : cs.kind = .function)
  (hdp : dp + 300 < recursionLimit) (hun : un + 3000 < cLine) (hch : CodeHd base 64 60) (hch2 : CodeHd base 71 67) (h60 : ∀ q ∈ news, q.1 ≠ 60) (h67 : ∀ q ∈ news, q.1 ≠ 67) (hx : 0 < x) (hb : 0 < b) (hkb : kn = intBits b) (hkn : 0 < kn) (hkn1 : kn ≤ 6500) (hbits : ((intBits x : Int) + kn - 1).fdiv kn = (k : Int)) (hk0 : 0 < k) (hk100 : k ≤ 100) (hxk : x < 2 ^ (kn * k))
  (hret : ∀ (D c1 : Addr) (oc : Obj) (fs : Array Value) (t' : Tok) (c2 : Addr) (t1 t2 : Tok) (c : Nat) (h' : Heap) (tk' : Nat), Fr h₀ L h' m → News h₀ L h' ((D, tup2 (x.fdiv b) (x.fmod b) t1 t2 c) :: (60, tabObj (i2dTab c1)) :: (c1, oc) :: (67, tabObj (d2iTab c2)) :: news) →
    oc.data = .fields fs → fs[1]? = some (.str i2dQ t') → AllLt D ((60, tabObj (i2dTab c1)) :: (c1, oc) :: (67, tabObj (d2iTab c2)) :: news) → @LT.lt Nat _ 60 c1 → AllLt c1 ((67, tabObj #[]) :: news) → Q (.ref D) { s with heap := h', toks := tk' }) :
  wpAny (model PySem.Challenge.rw_ny0110_01.row.prog w) (ktrTop dp un gd cn cs L a ccd cl outer) (call (.ref 79) [.int x t, .int b t2]) Q E s := by
  revert X; k_fill; intro X
  obtain ⟨hb0, hb1⟩ := bits_norm hb hkb.symm
  subst hkb
  refine wpAny_call ?_
  k_dflt (walk_at "mine enter")
  k_steps
  refine Hold.mk ?_
  k_dflt (refine' c_i2d (k := k) (kn := intBits b) ?k1 ?k2 ?k3 ?k4 ?k5 ?kK ?kd ?ku ?hc ?h6 hx hkn ?kn1 hbits hk0 hk100 hxk ?_; (case k1 => k_asm); (case k2 => k_asm); (case k3 => k_asm); (case k4 => k_asm); (case k5 => k_asm); (case kK => first | exact rfl | assumption); (case kd => (simp only [depth_deeper]; (try dsimp only [ktrTop]); omega)); (case ku => (simp only [units_deeper]; (try dsimp only [ktrTop]); omega)); (case hc => kn_code); (case h6 => exact List.forall_mem_cons.mpr ⟨by decide, h60⟩); (case kn1 => omega))
  intro D c' oc fs t' vs h9 tk9 F9 N9 o1 o2 i9 l1 l2 l3 l4
  k_steps
  have hds := dm_start (kn := intBits b) hb (Int.le_of_lt hx) hxk
  k_dflt (refine' rev_use_dm (x := x) (kn := intBits b) (k := k) ?r1 ?r2 ?r3 ?r4 ?r5 ?m1 ?m2 ?m3 ?m4 i9 hds ?r7 ?r8; (case r1 => rfl); (case r2 => k_asm); (case r3 => k_asm); (case r4 => assumption); (case r5 => exact .head _); (case m1 => rfl); (case m2 => rfl); (case m3 => rfl); (case m4 => rfl))
  · intro v r m₁ nw hJ it h₁ tk₁ hc F₁ N₁
    obtain ⟨ds, R, tr, vq, nq, e, hi₁, hm1, hm2, hm3, hm4, hn, hq, hI, hkk⟩ := hJ
    subst hn
    cases hi₁ with
    | cons d td hr =>
    rename_i ds
    have hR0 := hI.r0
    have hRb := hI.rb
    have bR : Bnd R 6500 := Bnd.mono (Bnd.of_range hR0 (Int.lt_trans hRb hb1)) hkn1
    have bk : intBits b ≤ 1000000 := by omega
    have aq := al4 (by assumption)
    k_steps
    refine Hold.mk ?_
    k_dflt (refine' c_div (kn := intBits b) ?k1 ?k2 ?k3 ?k4 ?k5 ?kK ?kd ?ku hkn1 (dm_x0 hI) (dm_xb hI) hb0 hb1 ?_; (case k1 => k_asm); (case k2 => k_asm); (case k3 => k_asm); (case k4 => k_asm); (case k5 => k_asm); (case kK => first | exact rfl | assumption); (case kd => (simp only [depth_deeper]; (try dsimp only [ktrTop]); omega)); (case ku => (simp only [units_deeper]; (try dsimp only [ktrTop]); omega)))
    intro D9 t9 u9 c9 h9 tk9 F9 N9 l9
    simp only [AllLt] at l9
    k_steps
    refine' unr_dm ?ua ?ub ?uc ?ud
    case ua => k_asm
    case ub => k_asm
    case uc => assumption
    exact ⟨ds, _, u9, vq ++ [Value.int _ t9], nq ++ [_], e + 1, hr, rfl, hm2, hm3, hm4, by rw [List.push_toArray], IntsAre.append hq (.cons _ _ .nil), dm_turn hb hI, by simp only [List.length_append, List.length_cons, List.length_nil] at hkk ⊢; omega⟩
  · intro m₁ nw hJ h₁ tk₁ F₁ N₁
    obtain ⟨ds, R, tr, vq, nq, e, hi₁, hm1, hm2, hm3, hm4, hn, hq, hI, hkk⟩ := hJ
    subst hn
    cases hi₁
    have aq := al4 (by assumption)
    have hql : vq.length = nq.length := hq.length
    have hz : vq.length ≤ sizeLine := by unfold sizeLine; simp only [List.length_nil] at hkk; omega
    have hqr := ints_rev hq
    have hrl : nq.reverse.length = k := by rw [List.length_reverse]; simpa using hkk
    have hok : DigOk (intBits b) nq.reverse := fun d hd => hI.ok d (List.mem_reverse.mp hd)
    have h67' : AllLt D ((67, tabObj #[]) :: news) := l3
    have h67'' : AllLt c' ((67, tabObj #[]) :: news) := l4
    obtain ⟨e1, e2⟩ := dm_end hI
    dsimp only
    k_steps
    refine Hold.mk ?_
    k_dflt (refine' c_d2i (k := k) (kn := intBits b) ?k1 ?k2 ?k3 ?k4 ?k5 ?kK ?kd ?ku ?hc ?h6 ?hD hqr hrl hkn ?kn1 hk0 hk100 hok ?_; (case k1 => k_asm); (case k2 => k_asm); (case k3 => k_asm); (case k4 => exact news_67 (by k_asm)); (case k5 => k_asm); (case kK => first | exact rfl | assumption); (case kd => (simp only [depth_deeper]; (try dsimp only [ktrTop]); omega)); (case ku => (simp only [units_deeper]; (try dsimp only [ktrTop]); omega)); (case hc => kn_code); (case h6 => exact List.forall_mem_cons.mpr ⟨Nat.ne_of_gt h67'.1, List.forall_mem_cons.mpr ⟨Nat.ne_of_gt h67''.1, List.forall_mem_cons.mpr ⟨(show (60 : Nat) ≠ 67 by decide), h67⟩⟩⟩); (case hD => omega); (case kn1 => omega))
    intro c2 t9 h9 tk9 F9 N9
    have ev : valD (intBits b) nq.reverse 0 k = x.fdiv b := by rw [← e1, ← valD_rev]; congr 1; simpa using hkk.symm
    rw [ev]
    subst e2
    k_steps
    exact hret _ c' oc fs t' c2 _ _ _ _ _ (by k_asm) (news_dm (by k_asm)) o1 o2 (al_dm (by assumption)) (ltN (Nat.lt_trans l1 l2)) l4
end
end Mine
end
section
theorem Mine.rsL1 : True := by w_top off; exact True.intro
open PySem PySem.W PyProof.Rows
set_option maxRecDepth 100000
set_option maxHeartbeats 8000000
set_option linter.unusedVariables false
namespace Mine
open PySem.Builtin.Int (intBits)
open PySem.Builtin PySem.Builtin.Str
section
variable {prog : Program} {w : World} {A : Around} {E : Value → Shared → Prop} {s : Shared} {h₀ : Heap} {L : Addr} {m : Str → Option Value} {news : List (Addr × Obj)} {Q : Value → Shared → Prop}
/-- one of four short texts -/
theorem pick4 {value slice : PySem.Expr} {D : Addr} {a b c d : Str} {ta tb tc td u : Tok} {e : Nat} {i : Int} (N : News h₀ L s.heap news) (hm : (D, ({ cls := .type "tuple", data := .seq #[.str a ta, .str b tb, .str c tc, .str d td] e } : Obj)) ∈ news)
    (h0 : 0 ≤ i) (h1 : i < 4) (ha : a.length ≤ 2) (hb : b.length ≤ 2) (hc : c.length ≤ 2) (hd : d.length ≤ 2) (h : ∀ v t, v.length ≤ 2 → Q (.str v t) s)
    (hs : subscripted slice false (.ref D) (.int i u) = operate [.ref D, .int i u] (getItem (.ref D) (.int i u)) := by with_unfolding_all rfl) :
    wpAny (model prog w) A (subscriptTail value slice (.ref D) (.int i u)) Q E s := by
  have hT : IsTup s.heap D [.str a ta, .str b tb, .str c tc, .str d td].toArray := ⟨_, (N _ hm).1, rfl, e, rfl⟩
  have hi : i = 0 ∨ i = 1 ∨ i = 2 ∨ i = 3 := by omega
  rcases hi with rfl | rfl | rfl | rfl
  · exact item_tupleT hT (by decide) (by decide) rfl rfl (h a ta ha) hs
  · exact item_tupleT hT (by decide) (by decide) rfl rfl (h b tb hb) hs
  · exact item_tupleT hT (by decide) (by decide) rfl rfl (h c tc hc) hs
  · exact item_tupleT hT (by decide) (by decide) rfl rfl (h d td hd) hs
theorem join_own {D : Addr} {ys : List Value} {l : List Int} {t : Tok} (hl : s.heap.IsList D ys.toArray) (hc : CarriedAll ys (l.map fun a => PyData.str (signOf a))) (hn : l.length ≤ 8) (h : ∀ v t' k, v.length ≤ 8 → Q (.str v t') { s with toks := k }) :
    wpAny (model prog w) A (call (.builtin "str.join") [.str (Str.ofString "") t, .ref D]) Q E s :=
  KT.join_1 hl hc (fun a _ => signOf_len a) (by omega) fun t' k e => h _ t' k (by omega)
theorem ne_same {x : Str} {t u : Tok} (h : Q (.bool false) s) : wpAny (model prog w) A (compareOp .NotEq (.str x t) (.str x u)) Q E s :=
  PyProof.Rows.ne_str (by rw [bne_self_eq_false]; exact h)
theorem strs_at : ∀ {vs : List Value} {xs : List Str}, StrsAre vs xs → ∀ (i : Nat) (x : Str), xs[i]? = some x → ∃ t, vs[i]? = some (.str x t)
  | _, _, .nil, i, x, h => by simp at h
  | _, _, .cons y t r, 0, x, h => by
    simp only [List.getElem?_cons_zero, Option.some.injEq] at h
    subst h
    exact ⟨t, rfl⟩
  | _, _, .cons y t r, i + 1, x, h => strs_at r i x (by simpa using h)
/-- an item of a list of texts -/
theorem item_text {value slice : PySem.Expr} {D : Addr} {vs : List Value} {xs : List Str} {e : Nat} {k : Int} {u : Tok} {x : Str} (i : Nat) (N : News h₀ L s.heap news) (hm : (D, listOf vs.toArray e) ∈ news) (hi : StrsAre vs xs) (hk : k = (i : Int)) (hi2 : i ≤ 100) (hx : xs[i]? = some x) (h : ∀ t, Q (.str x t) s)
    (hs : subscripted slice false (.ref D) (.int k u) = operate [.ref D, .int k u] (getItem (.ref D) (.int k u)) := by with_unfolding_all rfl) (hg : ∀ r, letTemporaryGo value (.ref D) r = pure () := by intro _; with_unfolding_all rfl) :
    wpAny (model prog w) A (subscriptTail value slice (.ref D) (.int k u)) Q E s := by
  obtain ⟨t, ht⟩ := strs_at hi i x hx
  subst hk
  exact item_listL (PySem.IsL.isList (n := e) (N _ hm).1) (by omega) (by omega) (by rw [Int.toNat_natCast]; exact ht) (h t) hs hg
theorem item_push {value slice : PySem.Expr} {D : Addr} {vs : List Value} {e : Nat} {k : Int} {u tx : Tok} {x : Str} (N : News h₀ L s.heap news) (hm : (D, listOf (vs.toArray.push (.str x tx)) e) ∈ news) (hk : k = (vs.length : Int)) (hi2 : vs.length ≤ 100) (h : Q (.str x tx) s)
    (hs : subscripted slice false (.ref D) (.int k u) = operate [.ref D, .int k u] (getItem (.ref D) (.int k u)) := by with_unfolding_all rfl) (hg : ∀ r, letTemporaryGo value (.ref D) r = pure () := by intro _; with_unfolding_all rfl) :
    wpAny (model prog w) A (subscriptTail value slice (.ref D) (.int k u)) Q E s := by
  subst hk
  rw [List.push_toArray] at hm
  exact item_listL (PySem.IsL.isList (n := e) (N _ hm).1) (by omega) (by omega) (by rw [Int.toNat_natCast]; simp) h hs hg
end

/-- the texts of the law -/
def Tx (nm T0 : Str) : Nat → Str
  | 0 => T0
  | i + 1 => fmt nm (Tx nm T0 i) true
theorem tx_at (nm T0 : Str) {i n : Nat} (h : i < n) : ((List.range n).map (Tx nm T0))[i]? = some (Tx nm T0 i) := by simp [h]
theorem fmt_len {n v : Str} {q : Bool} (hn : n.length ≤ 3) : (fmt n v q).length ≤ 2 * v.length + 6 := by
  have h1 : (Str.ofString "=\"").length = 2 := by decide +kernel
  have h2 : (Str.ofString "\"").length = 1 := by decide +kernel
  have h3 : (Str.ofString "=").length = 1 := by decide +kernel
  have h4 := esc_len v
  unfold fmt
  split
  · omega
  · split
    · simp only [Str.length_append]; omega
    · simp only [Str.length_append]; omega
theorem tx_len {nm T0 : Str} (hn : nm.length ≤ 3) (h0 : T0.length ≤ 22) : ∀ i, i ≤ 7 → (Tx nm T0 i).length ≤ 4000 := by
  have key : ∀ i, (Tx nm T0 i).length + 6 ≤ 28 * 2 ^ i := by
    intro i
    induction i with
    | zero => simp only [Tx, Nat.pow_zero]; omega
    | succ i ih =>
      have := fmt_len (v := Tx nm T0 i) (q := true) hn
      rw [Tx, Nat.pow_succ]
      omega
  intro i hi
  have h1 := key i
  have h2 : 2 ^ i ≤ 2 ^ 7 := Nat.pow_le_pow_right (by decide) hi
  omega
theorem spec_of_eq {v : Str} (h : (occurrences v (Str.ofString "=") 0 v.length 1).isEmpty = false) : hasSpec v = true := by
  have e : Str.ofString "=" = ⟨#[61]⟩ := by decide +kernel
  rw [e] at h
  have h2 := StrLaws.found_one v 61
  rw [h] at h2
  have h3 : (61 : Nat) ∈ v.cps.toList := by simpa using h2.symm
  exact List.any_eq_true.mpr ⟨61, h3, by decide⟩

/-- between the turns of the law's loop -/
def LwJ (nm : Str) (tn : Tok) (W : Int) (tw : Tok) (T0 : Str) (Dt : Addr) (rest : List (Addr × Obj)) (i : Nat) (m : Str → Option Value) (news : List (Addr × Obj)) : Prop :=
  ∃ (vs : List Value) (e : Nat), m (Str.ofString "name") = some (.str nm tn) ∧ m (Str.ofString "width") = some (.int W tw) ∧ news = (Dt, listOf vs.toArray e) :: rest ∧ StrsAre vs ((List.range (i + 1)).map (Tx nm T0))
section
variable {prog : Program} {w : World} {A : Around} {E : Value → Shared → Prop} {s : Shared} {env : Env} {h₀ : Heap} {x : Str} {body : List Stmt} {Q : Flow → Shared → Prop} {I : Addr} {a : Int} {n : Nat}
theorem range_loop {J : Nat → (Str → Option Value) → List (Addr × Obj) → Prop}
    (turn : ∀ (i : Nat) (m : Str → Option Value) (news : List (Addr × Obj)), i < n → J i m news → ∀ t h tk, Fr h₀ env.locals h (fun y => if y = x then some (.int (a + (i : Int)) t) else m y) → News h₀ env.locals h ((I, itR (a + ((i + 1 : Nat) : Int)) ((n : Int) - ((i + 1 : Nat) : Int))) :: news) →
      wpAny (model prog w) A (execs body env) (UnrPost h₀ env.locals { s with heap := h, toks := tk } I (itR (a + ((i + 1 : Nat) : Int)) ((n : Int) - ((i + 1 : Nat) : Int))) (fun m' n' => J (i + 1) m' n') Q) E { s with heap := h, toks := tk })
    (fin : ∀ m news, J n m news → ∀ h tk, Fr h₀ env.locals h m → News h₀ env.locals h news → Q .next { s with heap := h, toks := tk }) :
    ∀ k i m news, i + k = n → J i m news → RangeRest prog w A E h₀ env x body Q s I a n k i m news
  | 0, i, m, news, e, j => by
    have : i = n := by omega
    subst this
    exact fun h tk F N => fin m news j h tk F N
  | k + 1, i, m, news, e, j => fun t h tk F N => wpAny_mono (turn i m news (by omega) j t h tk F N) (fun _ _ q => unrPost_mono (fun m' n' j' => range_loop turn fin k (i + 1) m' n' (by omega) j') q) fun _ _ e => e
theorem law_loop {r Dt : Addr} {b₀ : Int} {t₀ u₀ v₀ tn tw t0 : Tok} {nm T0 : Str} {W : Int} {rest : List (Addr × Obj)} {e0 : Nat} {m₀ : Str → Option Value}
    (hh : A.handled = none) (hr : IsRange s.heap r 0 b₀ 1 t₀ u₀ v₀) (hb0 : 2 ≤ b₀) (hb1 : b₀ ≤ 5) (F : Fr h₀ env.locals s.heap m₀) (N : News h₀ env.locals s.heap ((Dt, listOf #[.str T0 t0] e0) :: rest))
    (m1 : m₀ (Str.ofString "name") = some (.str nm tn)) (m2 : m₀ (Str.ofString "width") = some (.int W tw)) (hnm : nm.length ≤ 3) (hT0 : T0.length ≤ 22) (hn1 : 1 ≤ nm.length) (hT1 : 1 ≤ T0.length) (hW0 : 12 ≤ W) (hW1 : W ≤ 2050)
    (turn : ∀ I : Addr, AllLt I ((Dt, listOf #[.str T0 t0] e0) :: rest) → ∀ (i : Nat) (m : Str → Option Value) (news : List (Addr × Obj)), (i : Int) < b₀ → i ≤ 4 → (Tx nm T0 i).length ≤ 4000 → (Tx nm T0 (i + 1)).length ≤ 4000 → LwJ nm tn W tw T0 Dt rest i m news → ∀ t h tk, Fr h₀ env.locals h (fun y => if y = x then some (.int (0 + (i : Int)) t) else m y) → News h₀ env.locals h ((I, itR (0 + ((i + 1 : Nat) : Int)) ((b₀.toNat : Int) - ((i + 1 : Nat) : Int))) :: news) →
      wpAny (model prog w) A (execs body env) (UnrPost h₀ env.locals { s with heap := h, toks := tk } I (itR (0 + ((i + 1 : Nat) : Int)) ((b₀.toNat : Int) - ((i + 1 : Nat) : Int))) (fun m' n' => LwJ nm tn W tw T0 Dt rest (i + 1) m' n') Q) E { s with heap := h, toks := tk })
    (fin : ∀ (nm : Str) (tn : Tok) (wd : Nat) (tw : Tok) (T0 : Str) (m : Str → Option Value) (news : List (Addr × Obj)), nm.length ≤ 3 → 1 ≤ nm.length → T0.length ≤ 22 → 1 ≤ T0.length → 12 ≤ wd → wd ≤ 2050 → LwJ nm tn (wd : Int) tw T0 Dt rest b₀.toNat m news → ∀ h tk, Fr h₀ env.locals h m → News h₀ env.locals h news → Q .next { s with heap := h, toks := tk }) :
    wpAny (model prog w) A (pyIter (.ref r)) (fun it s₂ => LoopAtV prog w A h₀ env x body Q E it s₂) E s := by
  have hsz : Builtin.Range.rangeSize 0 b₀ 1 = ((b₀.toNat : Nat) : Int) := by
    have := rangeSize_nat 0 b₀
    rw [this]
    simp
  refine iter_rangeUnr (n := b₀.toNat) hh hr (small_one (by omega) (by omega) (by omega) (by omega)) hsz F N fun I hI => ?_
  refine range_loop (fun i m news hi j t h tk F N => turn I (allLt_of hI) i m news (by omega) (by omega) (tx_len hnm hT0 i (by omega)) (tx_len hnm hT0 (i + 1) (by omega)) j t h tk F N) (fun m news j => fin nm tn W.toNat tw T0 m news hnm hn1 hT0 hT1 (by omega) (by omega) (by rw [show ((W.toNat : Nat) : Int) = W from by omega]; exact j)) _ 0 m₀ _ (by omega) ?_
  exact ⟨[.str T0 t0], e0, m1, m2, rfl, .cons _ _ .nil⟩
end
theorem strs_next {nm T0 : Str} {vs : List Value} {i : Nat} {t : Tok} (h : StrsAre vs ((List.range (i + 1)).map (Tx nm T0))) : StrsAre (vs ++ [.str (fmt nm (Tx nm T0 i) true) t]) ((List.range (i + 1 + 1)).map (Tx nm T0)) := by
  rw [List.range_succ, List.map_append]
  exact h.append' (.cons _ _ .nil)
theorem lwJ_next {nm : Str} {tn : Tok} {W : Int} {tw : Tok} {T0 : Str} {Dt : Addr} {rest : List (Addr × Obj)} {i : Nat} {m' : Str → Option Value} {vs : List Value} {e : Nat} {t : Tok} (hm1 : m' (Str.ofString "name") = some (.str nm tn)) (hm2 : m' (Str.ofString "width") = some (.int W tw)) (hs : StrsAre vs ((List.range (i + 1)).map (Tx nm T0))) :
    LwJ nm tn W tw T0 Dt rest (i + 1) m' ((Dt, listOf (vs.toArray.push (.str (fmt nm (Tx nm T0 i) true) t)) (e + 1)) :: rest) := ⟨vs ++ [.str (fmt nm (Tx nm T0 i) true) t], e + 1, hm1, hm2, by rw [List.push_toArray], strs_next hs⟩
theorem unr_law {h₀ : Heap} {L I : Addr} {it : Obj} {rest : (Str → Option Value) → List (Addr × Obj) → Prop} {s₁ : Shared} {h' : Heap} {tk : Nat} {m' : Str → Option Value} {news' all : List (Addr × Obj)} (F : Fr h₀ L h' m') (N : News h₀ L h' all) (sub : ∀ p ∈ (I, it) :: news', p ∈ all)
    (off : AllLt I news') (r : rest m' news') : UnrEnd h₀ L s₁ I it rest { s₁ with heap := h', toks := tk } :=
  UnrEnd.intro F N news' sub (fun p hp => Nat.ne_of_lt (ktn_ltOf off p hp)) r
end Mine
end
section
theorem Mine.rsM5 : True := by w_top off; exact True.intro
open PySem PySem.W PyProof.Rows
set_option maxRecDepth 100000
set_option maxHeartbeats 8000000
set_option linter.unusedVariables false
namespace Mine
open PySem.Builtin.Int (intBits)
/-! the counts of a text, and what one more round makes of them -/
def cB (v : Str) : Int := Txt.count v (Str.ofString "\\")
def cM (v : Str) : Int := Txt.count v (Str.ofString "\"")
theorem cB_cnt (v : Str) : cB v = cnt 92 v.cps.toList := by unfold cB; rw [lit_bar]; exact count_cnt v 92
theorem cM_cnt (v : Str) : cM v = cnt 34 v.cps.toList := by unfold cM; rw [lit_mark]; exact count_cnt v 34
theorem cnt_esc92 : ∀ l : List Nat, cnt 92 (escL l) = 2 * cnt 92 l + cnt 34 l
  | [] => rfl
  | k :: r => by
    have ih := cnt_esc92 r
    have e : escL (k :: r) = (if k = 34 ∨ k = 92 then [92, k] else [k]) ++ escL r := rfl
    rw [e, cnt_append, ih, cnt_cons, cnt_cons]
    by_cases h : k = 92
    · subst h; simp [cnt_cons, cnt_nil]; omega
    · by_cases h2 : k = 34
      · subst h2; simp [cnt_cons, cnt_nil]; omega
      · simp [h, h2, cnt_cons, cnt_nil]
theorem cnt_esc34 : ∀ l : List Nat, cnt 34 (escL l) = cnt 34 l
  | [] => rfl
  | k :: r => by
    have ih := cnt_esc34 r
    have e : escL (k :: r) = (if k = 34 ∨ k = 92 then [92, k] else [k]) ++ escL r := rfl
    rw [e, cnt_append, ih, cnt_cons]
    by_cases h : k = 92
    · subst h; simp [cnt_cons, cnt_nil]
    · by_cases h2 : k = 34
      · subst h2; simp [cnt_cons, cnt_nil]
      · simp [h, h2, cnt_cons, cnt_nil]
theorem len_esc : ∀ l : List Nat, ((escL l).length : Int) = l.length + cnt 92 l + cnt 34 l
  | [] => rfl
  | k :: r => by
    have ih := len_esc r
    have e : escL (k :: r) = (if k = 34 ∨ k = 92 then [92, k] else [k]) ++ escL r := rfl
    rw [e, List.length_append, cnt_cons, cnt_cons]
    by_cases h : k = 92
    · subst h; simp; omega
    · by_cases h2 : k = 34
      · subst h2; simp; omega
      · simp [h, h2]; omega
/-- one more round -/
theorem fmt_round {n v : Str} (hv : v.length ≠ 0) : cB (fmt n v true) = cB n + 2 * cB v + cM v ∧ cM (fmt n v true) = cM n + cM v + 2 ∧ ((fmt n v true).length : Int) = n.length + v.length + cB v + cM v + 3 := by
  have e : fmt n v true = n ++ Str.ofString "=\"" ++ esc v ++ Str.ofString "\"" := by unfold fmt; rw [if_neg hv, if_pos (by simp)]
  have e1 : Str.ofString "=\"" = ⟨#[61, 34]⟩ := by decide +kernel
  have h1 : ∀ a b : Str, (a ++ b).cps.toList = a.cps.toList ++ b.cps.toList := fun a b => by rw [Str.cps_append, Array.toList_append]
  have h2 : (esc v).cps.toList = escL v.cps.toList := by simp [esc]
  rw [cB_cnt, cB_cnt, cB_cnt, cM_cnt, cM_cnt, cM_cnt, e]
  simp only [h1, cnt_append, h2, cnt_esc92, cnt_esc34, e1, lit_mark, Str.length_append]
  have l1 : ((esc v).length : Int) = v.length + cnt 92 v.cps.toList + cnt 34 v.cps.toList := by
    have : (esc v).length = (escL v.cps.toList).length := by simp [Str.length, esc]
    rw [this, len_esc]; simp [Str.length]
  have l2 : (⟨#[61, 34]⟩ : Str).length = 2 := rfl
  have l3 : (⟨#[34]⟩ : Str).length = 1 := rfl
  refine ⟨?_, ?_, ?_⟩
  · simp [cnt_cons, cnt_nil]; omega
  · simp [cnt_cons, cnt_nil]; omega
  · omega
theorem frontV_eq (v n : Str) (q : Int) (hv : v.length ≠ 0) (hv1 : (fmt n v true).length ≠ 0) :
    frontV v n q = ((v.length : Int) * q + ((fmt n v true).length : Int) - 4 * v.length) * q + ((fmt n (fmt n v true) true).length : Int) - 4 * ((fmt n v true).length : Int) + 5 * v.length := by
  obtain ⟨b1, m1, l1⟩ := fmt_round (n := n) hv
  obtain ⟨b2, m2, l2⟩ := fmt_round (n := n) hv1
  unfold frontV
  show ((↑v.length - cB v + cB v) * q + (↑v.length - cB v + ↑n.length - cB n + 3 + (2 * cB v + cM v + cB n)) - 4 * (↑v.length - cB v + cB v)) * q + (↑v.length - cB v + ↑n.length - cB n + 3 + ↑n.length - cB n + 3 + (2 * (2 * cB v + cM v + cB n) + (cM v + cM n + 2) + cB n)) - 4 * (↑v.length - cB v + ↑n.length - cB n + 3 + (2 * cB v + cM v + cB n)) + 5 * (↑v.length - cB v + cB v) = _
  have e1 : (↑v.length - cB v + ↑n.length - cB n + 3 + (2 * cB v + cM v + cB n) : Int) = ((fmt n v true).length : Int) := by omega
  have e0 : (↑v.length - cB v + cB v : Int) = v.length := by omega
  have e2 : (↑v.length - cB v + ↑n.length - cB n + 3 + ↑n.length - cB n + 3 + (2 * (2 * cB v + cM v + cB n) + (cM v + cM n + 2) + cB n) : Int) = ((fmt n (fmt n v true) true).length : Int) := by omega
  rw [e0, e1, e2]
/-- the lengths -/
def aL (nm T0 : Str) (i : Nat) : Int := ((Tx nm T0 i).length : Int)
theorem fmt_pos {n v : Str} {q : Bool} : n.length ≤ (fmt n v q).length := by
  unfold fmt
  split
  · exact Nat.le_refl _
  · split <;> (simp only [Str.length_append]; omega)
theorem tx_pos {nm T0 : Str} (h : 1 ≤ nm.length) (h0 : 1 ≤ T0.length) : ∀ i, (Tx nm T0 i).length ≠ 0
  | 0 => by rw [Tx]; omega
  | i + 1 => by rw [Tx]; have := fmt_pos (n := nm) (v := Tx nm T0 i) (q := true); omega
section
variable {nm T0 : Str} (h : 1 ≤ nm.length) (h0 : 1 ≤ T0.length)
include h h0
theorem aL_rec (i : Nat) : aL nm T0 (i + 3) = 4 * aL nm T0 (i + 2) - 5 * aL nm T0 (i + 1) + 2 * aL nm T0 i := by
  obtain ⟨b1, m1, l1⟩ := fmt_round (n := nm) (tx_pos h h0 i)
  obtain ⟨b2, m2, l2⟩ := fmt_round (n := nm) (tx_pos h h0 (i + 1))
  obtain ⟨b3, m3, l3⟩ := fmt_round (n := nm) (tx_pos h h0 (i + 2))
  simp only [aL, Tx] at *
  omega
theorem front_aL (i : Nat) (q : Int) : frontV (Tx nm T0 i) nm q = (aL nm T0 i * q + aL nm T0 (i + 1) - 4 * aL nm T0 i) * q + aL nm T0 (i + 2) - 4 * aL nm T0 (i + 1) + 5 * aL nm T0 i :=
  frontV_eq _ _ _ (tx_pos h h0 i) (tx_pos h h0 (i + 1))
theorem front_step (i : Nat) (q : Int) : frontV (Tx nm T0 i) nm q * q = aL nm T0 i * ((q - 1) * (q - 1) * (q - 2)) + frontV (Tx nm T0 (i + 1)) nm q := by
  rw [front_aL h h0, front_aL h h0, aL_rec h h0]
  generalize aL nm T0 i = a
  generalize aL nm T0 (i + 1) = b
  generalize aL nm T0 (i + 2) = c
  grind
end
/-- the quotient -/
def quo (nm T0 : Str) (q : Int) : Nat → Int
  | 0 => 0
  | k + 1 => quo nm T0 q k * q + aL nm T0 k
theorem front_sum {nm T0 : Str} (h : 1 ≤ nm.length) (h0 : 1 ≤ T0.length) (q : Int) : ∀ k, frontV T0 nm q * q ^ k = quo nm T0 q k * ((q - 1) * (q - 1) * (q - 2)) + frontV (Tx nm T0 k) nm q
  | 0 => by rw [quo, Int.pow_zero, Tx]; omega
  | k + 1 => by
    have ih := front_sum h h0 q k
    have st := front_step h h0 k q
    rw [Int.pow_succ, ← Int.mul_assoc, ih, quo]
    generalize frontV (Tx nm T0 k) nm q = F at *
    generalize frontV (Tx nm T0 (k + 1)) nm q = G at *
    generalize (q - 1) * (q - 1) * (q - 2) = B at *
    generalize quo nm T0 q k = S at *
    generalize aL nm T0 k = a at *
    have : (S * B + F) * q = S * q * B + F * q := by grind
    rw [this, st]
    grind
end Mine
end
section
theorem Mine.rsM6 : True := by w_top off; exact True.intro
open PySem PySem.W PyProof.Rows
set_option maxRecDepth 100000
set_option maxHeartbeats 8000000
set_option linter.unusedVariables false
namespace Mine
open PySem.Builtin.Int (intBits)
section
variable {nm T0 : Str} {wd : Nat} (hn : nm.length ≤ 3) (h : 1 ≤ nm.length) (hT : T0.length ≤ 22) (h0 : 1 ≤ T0.length) (hw : 12 ≤ wd)
theorem p_big {wd : Nat} (hw : 12 ≤ wd) : (4096 : Int) ≤ 2 ^ wd := by
  have : (2 : Nat) ^ 12 ≤ 2 ^ wd := Nat.pow_le_pow_right (by decide) hw
  have c := cast_p2 wd
  have e : (2 : Nat) ^ 12 = 4096 := by decide
  omega
include hn h hT h0 in
theorem aL_rng {i : Nat} (hi : i ≤ 7) : 1 ≤ aL nm T0 i ∧ aL nm T0 i ≤ 4000 := by
  have h1 := tx_pos h h0 i
  have h2 := tx_len hn hT i hi
  unfold aL
  omega
include hn h hT h0 in
theorem front_rng {i : Nat} (hi : i ≤ 5) {P : Int} (hP : 4096 ≤ P) : 0 < frontV (Tx nm T0 i) nm P ∧ frontV (Tx nm T0 i) nm P < (P - 1) * (P - 1) * (P - 2) ∧ frontV (Tx nm T0 i) nm P < 4002 * (P * P) := by
  rw [front_aL h h0]
  obtain ⟨a1, a2⟩ := aL_rng hn h hT h0 (i := i) (by omega)
  obtain ⟨b1, b2⟩ := aL_rng hn h hT h0 (i := i + 1) (by omega)
  obtain ⟨c1, c2⟩ := aL_rng hn h hT h0 (i := i + 2) (by omega)
  generalize aL nm T0 i = a at *
  generalize aL nm T0 (i + 1) = b at *
  generalize aL nm T0 (i + 2) = c at *
  have e1 : (a * P + b - 4 * a) * P = a * (P * P) + b * P - 4 * (a * P) := by grind
  have e2 : (P - 1) * (P - 1) * (P - 2) = P * (P * P) - 4 * (P * P) + 5 * P - 2 := by grind
  rw [e1, e2]
  have hPP : 4096 * P ≤ P * P := Int.mul_le_mul_of_nonneg_right hP (by omega)
  have k1 : a * (P * P) ≤ 4000 * (P * P) := Int.mul_le_mul_of_nonneg_right a2 (by omega)
  have k2 : b * P ≤ 4000 * P := Int.mul_le_mul_of_nonneg_right b2 (by omega)
  have k3 : 1 * (P * P - 4 * P) ≤ a * (P * P - 4 * P) := Int.mul_le_mul_of_nonneg_right a1 (by omega)
  have k4 : a * (P * P - 4 * P) = a * (P * P) - 4 * (a * P) := by grind
  have k5 : 0 ≤ b * P := Int.mul_nonneg (by omega) (by omega)
  have k6 : 4096 * (P * P) ≤ P * (P * P) := Int.mul_le_mul_of_nonneg_right hP (by omega)
  have k7 : 0 ≤ a * P := Int.mul_nonneg (by omega) (by omega)
  refine ⟨?_, ?_, ?_⟩ <;> omega
include hn h hT h0 in
theorem quo_rng {P : Int} (hP : 4096 ≤ P) : ∀ k, k ≤ 6 → 0 ≤ quo nm T0 P k ∧ quo nm T0 P k < P ^ k
  | 0, _ => by simp [quo]
  | k + 1, hk => by
    obtain ⟨q0, q1⟩ := quo_rng hP k (by omega)
    obtain ⟨a1, a2⟩ := aL_rng hn h hT h0 (i := k) (by omega)
    rw [quo, Int.pow_succ]
    have e1 : 0 ≤ quo nm T0 P k * P := Int.mul_nonneg q0 (by omega)
    have e2 : quo nm T0 P k * P ≤ (P ^ k - 1) * P := Int.mul_le_mul_of_nonneg_right (by omega) (by omega)
    have e3 : (P ^ k - 1) * P = P ^ k * P - P := by rw [Int.sub_mul, Int.one_mul]
    omega
include hn h hT h0 in
theorem quo_low {P : Int} (hP : 4096 ≤ P) : ∀ k, k ≤ 6 → P ^ k ≤ quo nm T0 P (k + 1)
  | 0, _ => by
    have := (aL_rng hn h hT h0 (i := 0) (by omega)).1
    simp only [quo, Int.pow_zero]
    omega
  | k + 1, hk => by
    have ih := quo_low hP k (by omega)
    have := (aL_rng hn h hT h0 (i := k + 1) (by omega)).1
    rw [quo, Int.pow_succ]
    have e1 : P ^ k * P ≤ quo nm T0 P (k + 1) * P := Int.mul_le_mul_of_nonneg_right ih (by omega)
    omega
include hn h hT h0 hw in
theorem digs_quo : ∀ k, k ≤ 6 → digs wd k (quo nm T0 (2 ^ wd) k) = (List.range k).map fun j => aL nm T0 (k - 1 - j)
  | 0, _ => rfl
  | k + 1, hk => by
    have ih := digs_quo k (by omega)
    have hP := p_big hw
    obtain ⟨a1, a2⟩ := aL_rng hn h hT h0 (i := k) (by omega)
    have e : quo nm T0 (2 ^ wd) (k + 1) = quo nm T0 (2 ^ wd) k * 2 ^ wd + aL nm T0 k := rfl
    obtain ⟨d1, d2⟩ := kbt_unique (a := quo nm T0 (2 ^ wd) (k + 1)) (q := quo nm T0 (2 ^ wd) k) (r := aL nm T0 k) (b := 2 ^ wd) (p2 wd) (by rw [e, Int.mul_comm]; omega) (by omega) (by omega)
    unfold digs at ih ⊢
    rw [List.range_succ_eq_map, List.map_cons, List.map_cons, List.map_map, List.map_map]
    congr 1
    · unfold dig
      rw [Nat.mul_zero, Int.pow_zero, Int.ediv_one, d2]
      simp
    · have e2 : (dig wd (quo nm T0 (2 ^ wd) (k + 1)) ∘ Nat.succ) = dig wd (quo nm T0 (2 ^ wd) k) := by
        funext j
        show dig wd _ (j + 1) = _
        have := dig_up wd (quo nm T0 (2 ^ wd) (k + 1)) 1 j
        rw [Nat.mul_one, d1] at this
        rw [this, Nat.add_comm 1 j]
      rw [e2, ih]
      apply List.map_congr_left
      intro j hj
      show aL nm T0 (k - 1 - j) = aL nm T0 (k + 1 - 1 - (j + 1))
      congr 1
      omega
end
/-- how many digits -/
theorem bits_k {x : Int} {wd k : Nat} (hw : 0 < wd) (hl : 2 ^ (wd * k) ≤ x) (hh : x < 2 ^ (wd * (k + 1))) : ((intBits x : Int) + wd - 1).fdiv wd = ((k + 1 : Nat) : Int) := by
  have hx : 0 < x := Int.lt_of_lt_of_le (p2 _) hl
  have b1 : intBits x ≤ wd * (k + 1) := (Bnd.of_range (Int.le_of_lt hx) hh).bits
  have b2 : wd * k < intBits x := by
    have h1 := (bits_norm hx rfl).2
    have h2 : (2 : Int) ^ (wd * k) < 2 ^ intBits x := Int.lt_of_le_of_lt hl h1
    have c1 := cast_p2 (wd * k)
    have c2 := cast_p2 (intBits x)
    have h3 : (2 : Nat) ^ (wd * k) < 2 ^ intBits x := by omega
    exact (Nat.pow_lt_pow_iff_right (by decide)).mp h3
  rw [fdiv_pos_eq (by omega)]
  have e1 : (wd * (k + 1) : Nat) = wd * k + wd := by rw [Nat.mul_add, Nat.mul_one]
  have := kbt_unique (a := (intBits x : Int) + wd - 1) (b := (wd : Int)) (q := ((k + 1 : Nat) : Int)) (r := (intBits x : Int) - 1 - ((wd * k : Nat) : Int)) (by omega) (by
    have e2 : (wd : Int) * ((k + 1 : Nat) : Int) = ((wd * (k + 1) : Nat) : Int) := (Int.natCast_mul _ _).symm
    rw [e2, e1]; omega) (by omega) (by omega)
  exact this.1
theorem dm_k {x : Int} {kn : Nat} (hx : 0 < x) (hkn : 0 < kn) (hb : Bnd x (99 * kn)) : ∃ k : Nat, ((intBits x : Int) + kn - 1).fdiv kn = (k : Int) ∧ 0 < k ∧ k ≤ 100 ∧ x < 2 ^ (kn * k) := by
  have b1 := hb.bits
  have b0 : 0 < intBits x := by
    unfold intBits
    rw [if_neg (by simp; omega)]
    omega
  have e : ((intBits x : Int) + kn - 1) = ((intBits x + kn - 1 : Nat) : Int) := by omega
  refine ⟨(intBits x + kn - 1) / kn, ?_, ?_, ?_, ?_⟩
  · rw [fdiv_pos_eq (by omega), e]; rfl
  · exact Nat.div_pos (by omega) hkn
  · have : (intBits x + kn - 1) / kn < 101 := Nat.div_lt_of_lt_mul (by omega)
    omega
  · have h1 : x < 2 ^ intBits x := (bits_norm hx rfl).2
    refine Int.lt_of_lt_of_le h1 ?_
    have h2 : intBits x ≤ kn * ((intBits x + kn - 1) / kn) := by
      have := Nat.div_add_mod (intBits x + kn - 1) kn
      have := Nat.mod_lt (intBits x + kn - 1) hkn
      omega
    have h3 := Nat.pow_le_pow_right (n := 2) (by decide) h2
    have c1 := cast_p2 (intBits x)
    have c2 := cast_p2 (kn * ((intBits x + kn - 1) / kn))
    omega
end Mine
end
section
theorem Mine.rsA1 : True := by w_top off; exact True.intro
open PySem PySem.W PyProof.Rows
set_option maxRecDepth 100000
set_option maxHeartbeats 8000000
set_option linter.unusedVariables false
namespace Mine
open PySem.Builtin.Int (intBits)
theorem below_pos {P : Int} (hP : 4096 ≤ P) : 0 < (P - 1) * (P - 1) * (P - 2) := Int.mul_pos (Int.mul_pos (by omega) (by omega)) (by omega)
theorem pow_pos' {P : Int} (hP : 0 < P) (k : Nat) : 0 < P ^ k := Int.pow_pos hP
theorem law_arith {nm T0 : Str} {wd k : Nat} (hn : nm.length ≤ 3) (h : 1 ≤ nm.length) (hT : T0.length ≤ 22) (h0 : 1 ≤ T0.length) (hw : 12 ≤ wd) (hk : k ≤ 5) :
    0 < frontV (Tx nm T0 0) nm (2 ^ wd) * (2 ^ wd) ^ k ∧
    (frontV (Tx nm T0 0) nm (2 ^ wd) * (2 ^ wd) ^ k).fdiv (((2 : Int) ^ wd - 1) * (2 ^ wd - 1) * (2 ^ wd - 2)) = quo nm T0 (2 ^ wd) k ∧
    (frontV (Tx nm T0 0) nm (2 ^ wd) * (2 ^ wd) ^ k).fmod (((2 : Int) ^ wd - 1) * (2 ^ wd - 1) * (2 ^ wd - 2)) = frontV (Tx nm T0 k) nm (2 ^ wd) := by
  have hP := p_big hw
  have hB := below_pos hP
  have e := front_sum h h0 ((2 : Int) ^ wd) k
  obtain ⟨f0, f1, f2⟩ := front_rng hn h hT h0 (i := k) hk hP
  obtain ⟨g0, g1, g2⟩ := front_rng hn h hT h0 (i := 0) (by decide) hP
  have e0 : Tx nm T0 0 = T0 := by rw [Tx]
  rw [e0] at g0 ⊢
  have hp : 0 < frontV T0 nm (2 ^ wd) * (2 ^ wd) ^ k := Int.mul_pos g0 (pow_pos' (by omega) k)
  refine ⟨hp, ?_⟩
  rw [e] at hp ⊢
  have := kbt_unique (a := quo nm T0 (2 ^ wd) k * (((2 : Int) ^ wd - 1) * (2 ^ wd - 1) * (2 ^ wd - 2)) + frontV (Tx nm T0 k) nm (2 ^ wd)) (q := quo nm T0 (2 ^ wd) k) (r := frontV (Tx nm T0 k) nm (2 ^ wd)) hB (by rw [Int.mul_comm, Int.add_comm]) (Int.le_of_lt f0) f1
  rw [Int.fdiv_eq_ediv_of_nonneg _ (Int.le_of_lt hB), Int.fmod_eq_emod_of_nonneg _ (Int.le_of_lt hB)]
  exact this
theorem below_low {P : Int} (hP : 4096 ≤ P) : P ≤ (P - 1) * (P - 1) * (P - 2) := by
  have h1 : 4095 * (P - 1) ≤ (P - 1) * (P - 1) := Int.mul_le_mul_of_nonneg_right (by omega) (by omega)
  have h2 : (4095 * (P - 1)) * 1 ≤ (P - 1) * (P - 1) * (P - 2) := Int.mul_le_mul h1 (by omega) (by decide) (by omega)
  omega
theorem wd_lt {wd : Nat} (hw : 12 ≤ wd) : wd < intBits (((2 : Int) ^ wd - 1) * (2 ^ wd - 1) * (2 ^ wd - 2)) := by
  have hP := p_big hw
  have h1 := (bits_norm (below_pos hP) rfl).2
  have h2 := Int.lt_of_le_of_lt (below_low hP) h1
  generalize intBits (((2 : Int) ^ wd - 1) * (2 ^ wd - 1) * (2 ^ wd - 2)) = n at *
  have c1 := cast_p2 wd
  have c2 := cast_p2 n
  have h3 : (2 : Nat) ^ wd < 2 ^ n := by omega
  exact (Nat.pow_lt_pow_iff_right (by decide)).mp h3
theorem top_bnd {nm T0 : Str} {wd k : Nat} (hn : nm.length ≤ 3) (h : 1 ≤ nm.length) (hT : T0.length ≤ 22) (h0 : 1 ≤ T0.length) (hw : 12 ≤ wd) (hk : k ≤ 5) :
    Bnd (frontV (Tx nm T0 0) nm (2 ^ wd) * (2 ^ wd) ^ k) (99 * wd) := by
  have hP := p_big hw
  obtain ⟨g0, g1, g2⟩ := front_rng hn h hT h0 (i := 0) (by decide) hP
  have gP : Bnd ((2 : Int) ^ wd) (wd + 1) := Bnd.pow wd
  have b1 : Bnd (frontV (Tx nm T0 0) nm (2 ^ wd)) (30 + ((wd + 1) + (wd + 1))) := Bnd.le (b := 4002 * ((2 : Int) ^ wd * 2 ^ wd)) ((Bnd.small (by decide) (by decide)).mul (gP.mul gP)) (Int.le_of_lt g0) (Int.le_of_lt g2)
  have key : ∀ k : Nat, Bnd (((2 : Int) ^ wd) ^ k) ((wd + 1) * k + 1) := by
    intro k
    induction k with
    | zero => rw [Int.pow_zero]; unfold Bnd; simp
    | succ k ih => rw [Int.pow_succ]; exact (ih.mul gP).mono (by rw [Nat.mul_succ]; omega)
  refine (b1.mul (key k)).mono ?_
  have : (wd + 1) * k ≤ (wd + 1) * 5 := Nat.mul_le_mul_left _ hk
  omega
theorem dm_all {nm T0 : Str} {wd k : Nat} (hn : nm.length ≤ 3) (h : 1 ≤ nm.length) (hT : T0.length ≤ 22) (h0 : 1 ≤ T0.length) (hw : 12 ≤ wd) (hk : k ≤ 5) :
    ∃ j : Nat, ((intBits (frontV (Tx nm T0 0) nm (2 ^ wd) * (2 ^ wd) ^ k) : Int) + intBits (((2 : Int) ^ wd - 1) * (2 ^ wd - 1) * (2 ^ wd - 2)) - 1).fdiv (intBits (((2 : Int) ^ wd - 1) * (2 ^ wd - 1) * (2 ^ wd - 2))) = (j : Int) ∧ 0 < j ∧ j ≤ 100 ∧ frontV (Tx nm T0 0) nm (2 ^ wd) * (2 ^ wd) ^ k < 2 ^ (intBits (((2 : Int) ^ wd - 1) * (2 ^ wd - 1) * (2 ^ wd - 2)) * j) := by
  have h1 := wd_lt hw
  exact dm_k (law_arith hn h hT h0 hw hk).1 (by omega) ((top_bnd hn h hT h0 hw hk).mono (by omega))
/-- the digits of the quotient -/
theorem quo_all {nm T0 : Str} {wd k : Nat} (hn : nm.length ≤ 3) (h : 1 ≤ nm.length) (hT : T0.length ≤ 22) (h0 : 1 ≤ T0.length) (hw : 12 ≤ wd) (h1 : 1 ≤ k) (hk : k ≤ 5) :
    0 < quo nm T0 (2 ^ wd) k ∧ ((intBits (quo nm T0 (2 ^ wd) k) : Int) + wd - 1).fdiv wd = (k : Int) ∧ quo nm T0 (2 ^ wd) k < 2 ^ (wd * k) := by
  have hP := p_big hw
  obtain ⟨j, rfl⟩ : ∃ j, k = j + 1 := ⟨k - 1, by omega⟩
  have l := quo_low hn h hT h0 hP j (by omega)
  have r := (quo_rng hn h hT h0 hP (j + 1) (by omega)).2
  rw [← Int.pow_mul] at l r
  exact ⟨Int.lt_of_lt_of_le (p2 _) l, bits_k (by omega) l r, r⟩
end Mine
end
section
theorem Mine.rsW3 : True := by w_top off; exact True.intro
open PySem PySem.W PyProof.Rows
set_option maxRecDepth 100000
set_option maxHeartbeats 8000000
set_option linter.unusedVariables false
namespace Mine
open PySem.Builtin.Int (intBits)
section
theorem rng_b {X : Int} : 2 ≤ 1 + (2 + X).fmod 4 + 1 ∧ 1 + (2 + X).fmod 4 + 1 ≤ 5 := by
  have h1 := Int.fmod_nonneg_of_pos (2 + X) (show (0 : Int) < 4 by decide)
  have h2 := Int.fmod_lt_of_pos (2 + X) (show (0 : Int) < 4 by decide)
  omega
theorem rng_w {X : Int} : 12 ≤ 2050 - X.fmod 2039 ∧ 2050 - X.fmod 2039 ≤ 2050 := by
  have h1 := Int.fmod_nonneg_of_pos X (show (0 : Int) < 2039 by decide)
  have h2 := Int.fmod_lt_of_pos X (show (0 : Int) < 2039 by decide)
  omega
theorem len_k {v : Str} (h : v.length ≤ 2) : (Str.ofString "k" ++ v).length ≤ 3 := by
  have hk1 : (Str.ofString "k").length = 1 := by decide +kernel
  rw [Str.length_append]; omega
theorem len_k1 {v : Str} : 1 ≤ (Str.ofString "k" ++ v).length := by
  have hk1 : (Str.ofString "k").length = 1 := by decide +kernel
  rw [Str.length_append]; omega
theorem len_t0 {v u : Str} {q : Bool} (h : v.length ≤ 2) (hu : u.length ≤ 8) : (fmt (Str.ofString "k" ++ v) u q).length ≤ 22 := Nat.le_trans (fmt_len (len_k h)) (by omega)
local macro_rules | `(tactic| walk_at "subscriptTail") => `(tactic| (k_dflt (refine' pick4 ?N ?m ?a ?b ?c ?d ?e ?f ?_ ?s; (case N => k_asm); (case m => k_mem); (case s => with_unfolding_all rfl); (case a => first | exact Int.fmod_nonneg_of_pos _ (by decide) | omega); (case b => first | exact Int.fmod_lt_of_pos _ (by decide) | omega); (case c => decide +kernel); (case d => decide +kernel); (case e => decide +kernel); (case f => decide +kernel); intro v9 t9 hv9)))
local macro_rules | `(tactic| walk_at "CompSrc") => `(tactic| (k_here; k_dflt (refine LCg.CompSrc.ledger (by rfl) (by k_asm) (by k_asm) (by k_mem) (by kcf_size) ?_; intro g'; (refine' kct_list signOf (by first | assumption | l_ints) (fun k' t' I' oI' C' oC' D' m' ys' h' tk' E' hk' hC' hx' F' N' off' ne' hMark' => ?_) ?_); (all_goals (try (simp only [LCg.Off3, and_true] at off'))))))
local macro_rules | `(tactic| walk_at "call builtin:str.join") => `(tactic| (k_dflt (refine' join_own ?l ?c ?n ?_; (case l => first | is_list | exact News.isList (by k_asm) (by k_mem)); (case c => assumption); (case n => omega); intro v9 t9 k9 hv9)))
local macro_rules | `(tactic| walk_at "compareOp NotEq str str") => `(tactic| (with_reducible refine ne_same ?_))
local macro_rules | `(tactic| walk_at "mine call") => `(tactic| ((case k1 => k_asm); (case k2 => k_asm); (case k3 => k_asm); (case k4 => k_asm); (case k5 => k_asm); (case kK => first | exact rfl | assumption); (case kd => ktr_room); (case ku => ktr_units)))
local macro_rules | `(tactic| walk_at "call ref") => `(tactic| (k_here; refine Hold.out ?_))
local macro_rules | `(tactic| walk_at "call ref") => `(tactic| (k_here; k_dflt (refine' c_marked ?k1 ?k2 ?k3 ?k4 ?k5 ?kK ?kd ?ku ?l1 ?l2 ?_; (case l1 => omega); (case l2 => omega); walk_at "mine call"; intro t9 h9 tk9 F9 N9; (try dsimp only); (try k_fold))))
local macro_rules | `(tactic| walk_at "call ref") => `(tactic| (k_here; k_dflt (refine' c_marked1 ?k1 ?k2 ?k3 ?k4 ?k5 ?kK ?kd ?ku ?l1 ?l2 ?_; (case l1 => omega); (case l2 => omega); walk_at "mine call"; intro t9 h9 tk9 F9 N9; (try dsimp only); (try k_fold))))
local macro_rules | `(tactic| walk_at "call ref") => `(tactic| (k_here; k_dflt (refine' c_fmt1 ?k1 ?k2 ?k3 ?k4 ?k5 ?kK ?kd ?ku ?l1 ?_; (case l1 => omega); walk_at "mine call"; intro t9 h9 tk9 F9 N9; (try dsimp only); (try k_fold))))
local macro_rules | `(tactic| walk_at "call ref") => `(tactic| (k_here; k_dflt (refine' c_fmt2 ?k1 ?k2 ?k3 ?k4 ?k5 ?kK ?kd ?ku ?l1 ?l2 ?_; (case l1 => omega); (case l2 => omega); walk_at "mine call"; intro t9 h9 tk9 F9 N9; (try dsimp only); (try k_fold))))
local macro_rules | `(tactic| walk_at "call ref") => `(tactic| (k_here; k_dflt (refine' c_fmt3 ?k1 ?k2 ?k3 ?k4 ?k5 ?kK ?kd ?ku ?l1 ?l2 ?_; (case l1 => omega); (case l2 => omega); walk_at "mine call"; intro t9 h9 tk9 F9 N9; (try dsimp only); (try k_fold))))
local macro_rules | `(tactic| walk_at "call ref") => `(tactic| (k_here; k_dflt (refine' c_sign ?k1 ?k2 ?k3 ?k4 ?k5 ?kK ?kd ?ku ?_; walk_at "mine call"; intro t9 h9 tk9 F9 N9; (try dsimp only); (try k_fold))))
local macro_rules | `(tactic| walk_at "exec For") => `(tactic| (k_here; refine Hold.out ?_))
local macro_rules | `(tactic| walk_at "exec For Name Call cons nil") => `(tactic| (k_here; refine Hold.out ?_))
local macro_rules | `(tactic| walk_at "pyIter ref") => `(tactic| (k_here; refine Hold.out ?_))
local macro_rules | `(tactic| walk_at "call type:range") => `(tactic| (k_dflt (refine' range1_rows ?F ?N ?_; (case F => k_asm); (case N => k_asm); intro h9 tk9 t9 u9 v9 R9 F9 N9 K9)))
local macro_rules | `(tactic| walk_at "eval Name") => `(tactic| (k_here; k_dflt (refine' nameX_L ?F ?v ?_ ?a ?b; (case F => k_asm); (case a => rfl); (case b => rfl); (case v => first | rfl | assumption); k_whole)))
local macro_rules | `(tactic| walk_at "subscriptTail") => `(tactic| (k_dflt (refine' item_push ?N ?m ?k ?l ?_ ?s ?g; (case N => k_asm); (case m => k_mem); (case k => omega); (case l => omega); (case s => with_unfolding_all rfl); (case g => (intro _; with_unfolding_all rfl)))))
local macro_rules | `(tactic| walk_at "subscriptTail") => `(tactic| (k_dflt (refine' item_text _ ?N ?m ?i ?k ?l ?x ?_ ?s ?g; (case N => k_asm); (case m => k_mem); (case i => assumption); (case k => first | exact Int.zero_add _ | exact rfl); (case x => exact tx_at _ _ (by omega)); (case l => omega); (case s => with_unfolding_all rfl); (case g => (intro _; with_unfolding_all rfl)); intro t9)))
local macro_rules | `(tactic| walk_at "call ref") => `(tactic| (k_here; k_dflt (refine' c_fmt0 ?k1 ?k2 ?k3 ?k4 ?k5 ?kK ?kd ?ku ?l1 ?l2 ?hs ?_; (case l1 => omega); (case l2 => omega); (case hs => exact spec_of_eq (by assumption)); walk_at "mine call"; intro t9 h9 tk9 F9 N9; (try dsimp only); (try k_fold))))
theorem pow_two {prog : Program} {w : World} {A : Around} {E : Value → Shared → Prop} {s : Shared} {t u : Tok} {Q : Value → Shared → Prop} {k : Nat} (hk : k ≤ 3000) (h : Q (.int ((2 : Int) ^ k) s.toks) { s with toks := s.toks + 1 }) : wpAny (model prog w) A (binaryOp .Pow (.int 2 t) (.int (k : Int) u)) Q E s :=
  pow_int (by omega) (by have : intBits 2 = 2 := by decide
                         rw [this]; omega) (by rw [Int.toNat_natCast]; exact h)
theorem pow_sq {prog : Program} {w : World} {A : Around} {E : Value → Shared → Prop} {s : Shared} {t u : Tok} {Q : Value → Shared → Prop} {a : Int} {j : Nat} (ha : Bnd a j) (hj : j ≤ 10000) (h : Q (.int (a * a) s.toks) { s with toks := s.toks + 1 }) : wpAny (model prog w) A (binaryOp .Pow (.int a t) (.int 2 u)) Q E s :=
  pow_int (by decide) (by have := ha.bits
                          omega) (by
    have e : a ^ (2 : Int).toNat = a * a := by
      show a ^ 2 = a * a
      rw [Int.pow_succ, Int.pow_succ, Int.pow_zero, Int.one_mul]
    rw [e]; exact h)
theorem pow_any {prog : Program} {w : World} {A : Around} {E : Value → Shared → Prop} {s : Shared} {t u : Tok} {Q : Value → Shared → Prop} {a n : Int} {j : Nat} (ha : Bnd a j) (hj : j ≤ 10000) (h0 : 0 ≤ n) (h1 : n ≤ 10) (h : Q (.int (a ^ n.toNat) s.toks) { s with toks := s.toks + 1 }) : wpAny (model prog w) A (binaryOp .Pow (.int a t) (.int n u)) Q E s :=
  pow_int h0 (by
    have hb := ha.bits
    have h2 : (intBits a : Int) * n ≤ 10000 * 10 := Int.mul_le_mul (by omega) h1 h0 (by decide)
    omega) h
theorem bnd_p1 {wd : Nat} (hw : 12 ≤ wd) (g : Bnd ((2 : Int) ^ wd) 2051) : Bnd ((2 : Int) ^ wd - 1) 2051 := by have := p_big hw; exact g.le (by omega) (by omega)
theorem bnd_p2 {wd : Nat} (hw : 12 ≤ wd) (g : Bnd ((2 : Int) ^ wd) 2051) : Bnd ((2 : Int) ^ wd - 2) 2051 := by have := p_big hw; exact g.le (by omega) (by omega)
theorem bnd_f {nm T0 : Str} {wd : Nat} (hn : nm.length ≤ 3) (h : 1 ≤ nm.length) (hT : T0.length ≤ 22) (h0 : 1 ≤ T0.length) (hw : 12 ≤ wd) (gP : Bnd ((2 : Int) ^ wd) 2051) : Bnd (frontV (Tx nm T0 0) nm (2 ^ wd)) 4200 := by
  obtain ⟨f0, f1, f2⟩ := front_rng hn h hT h0 (i := 0) (by decide) (p_big hw)
  exact Bnd.le (k := 4200) (b := 4002 * ((2 : Int) ^ wd * 2 ^ wd)) (((Bnd.small (by decide) (by decide)).mul (gP.mul gP)).mono (by decide)) (Int.le_of_lt f0) (Int.le_of_lt f2)
theorem bnd_pe {a n : Int} (ha : Bnd a 2051) (h0 : 0 ≤ n) (h1 : n ≤ 10) : Bnd (a ^ n.toNat) 20511 := by
  have key : ∀ k : Nat, Bnd (a ^ k) (2051 * k + 1) := by
    intro k
    induction k with
    | zero => rw [Int.pow_zero]; unfold Bnd; decide
    | succ k ih => rw [Int.pow_succ]; exact (ih.mul ha).mono (by omega)
  exact (key n.toNat).mono (by omega)
theorem idx_nat {X : Int} : 1 + (2 + X).fmod 4 + 1 = (((1 + (2 + X).fmod 4 + 1).toNat : Nat) : Int) := by have := rng_b (X := X); omega
theorem idx7 {X : Int} : (1 + (2 + X).fmod 4 + 1).toNat ≤ 7 := by have := rng_b (X := X); omega
theorem idx1 {X : Int} : 1 ≤ (1 + (2 + X).fmod 4 + 1).toNat := by have := rng_b (X := X); omega
theorem idx5 {X : Int} : (1 + (2 + X).fmod 4 + 1).toNat ≤ 5 := by have := rng_b (X := X); omega
local macro_rules | `(tactic| walk_at "subscriptTail Name Constant ref int") => `(tactic| (k_here; k_dflt (refine' item_text 0 ?N ?m ?i ?k ?l ?x ?_ ?s ?g; (case N => k_asm); (case m => k_mem); (case i => with_reducible assumption); (case k => exact rfl); (case x => exact tx_at _ _ (Nat.succ_pos _)); (case l => decide); (case s => with_unfolding_all rfl); (case g => (intro _; with_unfolding_all rfl)); intro t9)))
local macro_rules | `(tactic| walk_at "subscriptTail Name BinOp ref int") => `(tactic| (k_here; k_dflt (refine' item_text _ ?N ?m ?i ?k ?l ?x ?_ ?s ?g; (case N => k_asm); (case m => k_mem); (case i => with_reducible assumption); (case k => with_reducible exact idx_nat); (case x => exact tx_at _ _ (Nat.lt_succ_self _)); (case l => exact Nat.le_trans idx7 (by decide)); (case s => with_unfolding_all rfl); (case g => (intro _; with_unfolding_all rfl)); intro t9)))
local macro_rules | `(tactic| walk_at "binaryOp Mult int int") => `(tactic| ((with_reducible refine' mul_int ?_ ?hm); (case hm => first | exact Bnd.mulOk (by with_reducible assumption) (by with_reducible assumption) (by decide) (by decide) | exact Bnd.mulOk (by with_reducible assumption) (bnd_pe (by with_reducible assumption) (Int.le_trans (by decide) rng_b.1) (Int.le_trans rng_b.2 (by decide))) (by decide) (by decide))))
local macro_rules | `(tactic| walk_at "call ref") => `(tactic| (k_here; k_dflt (refine' c_front ?k1 ?k2 ?k3 ?k4 ?k5 ?kK ?kd ?ku ?l1 ?l2 ?hq ?_; (case l1 => omega); (case l2 => exact Nat.le_trans (tx_len (by assumption) (by assumption) _ (by first | omega | exact idx7)) (by decide)); (case hq => with_reducible assumption); walk_at "mine call"; intro t9 h9 tk9 F9 N9; (try dsimp only); (try k_fold))))
local macro_rules | `(tactic| walk_at "binaryOp Pow int int") => `(tactic| ((with_reducible refine' pow_any ?a ?b ?c ?d ?_); (case a => with_reducible assumption); (case b => decide); (case c => exact Int.le_trans (by decide) rng_b.1); (case d => exact Int.le_trans rng_b.2 (by decide))))
local macro_rules | `(tactic| walk_at "binaryOp Pow int int") => `(tactic| (with_reducible refine' pow_two ?a ?_; (case a => omega)))
local macro_rules | `(tactic| walk_at "binaryOp Pow int int") => `(tactic| ((with_reducible refine' pow_sq ?a ?b ?_); (case a => with_reducible assumption); (case b => decide)))
theorem news_law {h₀ h : Heap} {L : Addr} {a b c d e f x y : Addr × Obj} (N : News h₀ L h [a, b, c, d, e, f, x, y]) : News h₀ L h [y, x, a, e, f] := N.perm (by
  intro p hp
  simp only [List.mem_cons, List.not_mem_nil, or_false] at hp ⊢
  rcases hp with rfl | rfl | rfl | rfl | rfl <;> simp)
theorem ne3 {a b c : Addr × Obj} {z : Addr} (h1 : @LT.lt Nat _ z a.1) (h2 : @LT.lt Nat _ z b.1) (h3 : @LT.lt Nat _ z c.1) : ∀ q ∈ [a, b, c], q.1 ≠ z := by
  intro p hp
  simp only [List.mem_cons, List.not_mem_nil, or_false] at hp
  rcases hp with rfl | rfl | rfl
  · exact Nat.ne_of_gt h1
  · exact Nat.ne_of_gt h2
  · exact Nat.ne_of_gt h3
theorem idx_sub {X k : Int} (h0 : 0 ≤ k) (h1 : k < 0 + ((1 + (2 + X).fmod 4 + 1 - 0).toNat : Int)) : 1 + (2 + X).fmod 4 - k = (((1 + (2 + X).fmod 4 + 1).toNat - 1 - k.toNat : Nat) : Int) := by
  have := rng_b (X := X); omega
theorem idx_lt {X k : Int} : (1 + (2 + X).fmod 4 + 1).toNat - 1 - k.toNat < (1 + (2 + X).fmod 4 + 1).toNat + 1 := by omega
theorem idx_100 {X k : Int} : (1 + (2 + X).fmod 4 + 1).toNat - 1 - k.toNat ≤ 100 := by have := rng_b (X := X); omega
theorem map_range {n : Nat} (f : Nat → Int) : (rangeKs 0 n).map (fun k => f k.toNat) = (List.range n).map f := by
  unfold rangeKs
  rw [List.map_map]
  apply List.map_congr_left
  intro j _
  show f ((0 : Int) + (j : Int)).toNat = f j
  congr 1
  omega
/-- the comprehension of the law's last line -/
theorem comp_law {prog : Program} {w : World} {A : Around} {s : Shared} {h₀ : Heap} {L : Addr} {m : Str → Option Value} {env : Env} {elt : Expr} {x : Str} {scope : Scope} {cl : List (Str × Addr)} {Fin : Shared → List Value → List (Addr × Obj) → Prop} {r : Addr} {X : Int} {t u v : Tok} {news : List (Addr × Obj)} (nm T0 : Str)
    (hh : A.handled = none) (F : Fr h₀ L s.heap m) (N : News h₀ L s.heap news) (hr : IsRange s.heap r 0 (1 + (2 + X).fmod 4 + 1) 1 t u v)
    (turn : ∀ g k t I oI C oC D m₂ ys h tk (E' : Value → Shared → Prop), 0 ≤ k → k < 0 + ((1 + (2 + X).fmod 4 + 1 - 0).toNat : Int) → LCg.NsObj oC m₂ → m₂ x = some (.int k t) → Fr h₀ L h m → News h₀ L h ((I, oI) :: (C, oC) :: (D, LCg.lst ys) :: news) → LCg.Off3 I C D news → ((@Ne Nat I C) ∧ (@Ne Nat I D) ∧ (@Ne Nat C D)) → KPfMark →
      wpAny (model prog w) A (eval elt (compEnvC scope cl C env)) (LCg.CompEnd h₀ L m { { s with heap := g } with heap := h, toks := tk } I oI C oC D (LCg.lst ys) (fun _ => True) (fun y news' => KCfEl news (aL nm T0 ((1 + (2 + X).fmod 4 + 1).toNat - 1 - k.toNat)) y news')) E' { { s with heap := g } with heap := h, toks := tk })
    (fin : ∀ g ys, IntsAre ys ((List.range (1 + (2 + X).fmod 4 + 1).toNat).map fun j => aL nm T0 ((1 + (2 + X).fmod 4 + 1).toNat - 1 - j)) → Fin { s with heap := g } ys news) :
    LCg.CompSrc prog w A h₀ L m env elt x scope cl Fin (.ref r) s := by
  have hb := rng_b (X := X)
  refine LCg.CompSrc.range hh F N hr (small_one (by omega) (by omega) (by omega) (by omega)) (rangeSize_nat _ _) (by rw [PySem.sizeLine_eq]; omega) ?_
  intro g
  refine kcf_range (fun k => aL nm T0 ((1 + (2 + X).fmod 4 + 1).toNat - 1 - k.toNat)) (turn g) ?_
  unfold KPfDone
  intro ys hy
  rw [map_range (fun j => aL nm T0 ((1 + (2 + X).fmod 4 + 1).toNat - 1 - j)), Int.sub_zero] at hy
  exact fin g ys hy
local macro_rules | `(tactic| walk_at "subscriptTail Name BinOp ref int") => `(tactic| (k_here; k_dflt (refine' item_text _ ?N ?m ?i ?k ?l ?x ?_ ?s ?g; (case N => k_asm); (case m => k_mem); (case i => with_reducible assumption); (case k => with_reducible exact idx_sub (by assumption) (by assumption)); (case x => exact tx_at _ _ idx_lt); (case l => exact idx_100); (case s => with_unfolding_all rfl); (case g => (intro _; with_unfolding_all rfl)); intro t9)))
local macro_rules | `(tactic| walk_at "KCfEl") => `(tactic| (exact kcf_el rfl rfl rfl))
theorem idx_7 {X k : Int} : (1 + (2 + X).fmod 4 + 1).toNat - 1 - k.toNat ≤ 7 := by have := rng_b (X := X); omega
theorem len_tx {prog : Program} {w : World} {A : Around} {E : Value → Shared → Prop} {s : Shared} {t : Tok} {Q : Value → Shared → Prop} {nm T0 : Str} {i : Nat} (hn : nm.length ≤ 3) (h0 : T0.length ≤ 22) (hi : i ≤ 7) (h : Q (.int (Tx nm T0 i).length (s.toks + 1)) { s with toks := s.toks + 1 + 1 }) :
    wpAny (model prog w) A (call (.builtin "len") [.str (Tx nm T0 i) t]) Q E s := len_str (by have := tx_len hn h0 i hi; omega) h
local macro_rules | `(tactic| walk_at "call builtin:len") => `(tactic| (with_reducible refine len_tx (by assumption) (by assumption) idx_7 ?_))
theorem t : PySem.Challenge.rw_ny0110_01.Holds := hd (by
  have hk1 : (Str.ofString "k").length = 1 := by decide +kernel
  k_go0; (all_goals try k_fold); k_steps
  refine Hold.mk ?_
  (rename Fr _ _ _ _ => lF')
  (with_unfolding_all refine' For_invVF lF' ?k1 ?k2 ?_; (case k1 => exact rfl); (case k2 => exact rfl))
  k_steps
  refine Hold.mk ?_
  k_dflt (refine' law_loop ?r1 ?r2 ?r3 ?r4 ?r5 ?r6 ?m1 ?m2 ?n1 ?n2 ?n3 ?n4 ?n5 ?n6 ?tu ?fi; (case r1 => rfl); (case r2 => assumption); (case r5 => k_asm); (case r6 => k_asm); (case m1 => rfl); (case m2 => rfl); (case r3 => exact rng_b.1); (case r4 => exact rng_b.2); (case n1 => exact len_k (by assumption)); (case n2 => exact len_t0 (by assumption) (by assumption)); (case n3 => exact len_k1); (case n4 => exact Nat.le_trans len_k1 fmt_pos); (case n5 => exact rng_w.1); (case n6 => exact rng_w.2))
  case tu =>
    intro I hI i m₁ nw hib hi4 hl1 hl2 hJ t₁ h₁ tk₁ F₁ N₁
    obtain ⟨vs, e, hm1, hm2, hn, hs⟩ := hJ
    subst hn
    have hvl : vs.length = i + 1 := by rw [hs.length]; simp
    have hI2 := hI
    simp only [AllLt, and_true] at hI2
    k_steps
    all_goals exact lwJ_next hm1 hm2 hs
  case fi =>
    intro nm tn wd tw T0 m₁ nw hn3 hn1 hT22 hT1 hw12 hw20 hJ h₁ tk₁ F₁ N₁
    obtain ⟨vs, e, hm1, hm2, hn, hs⟩ := hJ
    subst hn
    have gP : Bnd ((2 : Int) ^ wd) 2051 := (Bnd.pow wd).mono (by omega)
    have gP' : Bnd ((2 : Int) ^ wd) 2100 := gP.mono (by decide)
    have gP1 : Bnd ((2 : Int) ^ wd - 1) 2051 := bnd_p1 hw12 gP
    have gP2 : Bnd ((2 : Int) ^ wd - 2) 2051 := bnd_p2 hw12 gP
    have gS : Bnd (((2 : Int) ^ wd - 1) * ((2 : Int) ^ wd - 1)) 4102 := gP1.mul gP1
    have gF : Bnd (frontV (Tx nm T0 0) nm (2 ^ wd)) 4200 := bnd_f hn3 hn1 hT22 hT1 hw12 gP
    dsimp only
    k_steps
    refine Hold.mk ?_
    rename News _ _ _ _ => lN'
    obtain ⟨j, j1, j2, j3, j4⟩ := dm_all (k := (_ : Int).toNat) hn3 hn1 hT22 hT1 hw12 idx5
    k_dflt (refine' c_dm (k := j) ?k1 ?k2 ?k3 (news_law lN') ?k5 ?kK ?kd ?ku ?hc ?hc2 ?h60 ?h67 (law_arith hn3 hn1 hT22 hT1 hw12 idx5).1 (below_pos (p_big hw12)) rfl (Nat.lt_of_le_of_lt (Nat.zero_le _) (wd_lt hw12)) ?kn1 j1 j2 j3 j4 ?_; (case k1 => k_asm); (case k2 => k_asm); (case k3 => k_asm); (case k5 => k_asm); (case kK => first | exact rfl | assumption); (case kd => ktr_room); (case ku => ktr_units); (case hc => kn_code); (case hc2 => kn_code); (case kn1 => exact ((gS.mul gP2).mono (by decide)).bits); (case h60 => (refine ne3 ?_ ?_ ?_ <;> (dsimp only; omega))); (case h67 => (refine ne3 ?_ ?_ ?_ <;> (dsimp only; omega))))
    intro D c1 oc fs t' c2 t1 t2 cc h' tk' F' N' o1 o2 lD l1 l2
    rw [(law_arith hn3 hn1 hT22 hT1 hw12 idx5).2.1, (law_arith hn3 hn1 hT22 hT1 hw12 idx5).2.2] at N'
    (try dsimp only); (try k_fold)
    simp only [AllLt, and_true] at lD l2
    k_steps
    refine Hold.mk ?_
    rename News _ _ _ _ => lN9
    obtain ⟨q1, q2, q3⟩ := quo_all (k := (_ : Int).toNat) hn3 hn1 hT22 hT1 hw12 idx1 idx5
    k_dflt (refine' c_i2dH (k := (_ : Int).toNat) ?k1 ?k2 ?k3 lN9.tail' ?k5 ?kK ?kd ?ku ?hc o1 o2 q1 ?kn0 ?kn1 q2 idx1 ?h100 q3 ?_; (case k1 => k_asm); (case k2 => k_asm); (case k3 => k_asm); (case k5 => k_asm); (case kK => first | exact rfl | assumption); (case kd => ktr_room); (case ku => ktr_units); (case hc => kn_code); (case kn0 => omega); (case kn1 => omega); (case h100 => exact Nat.le_trans idx5 (by decide)))
    intro D2 vd h2' tk2' F2' N2' hvd m1 m2 m3
    rw [digs_quo hn3 hn1 hT22 hT1 hw12 _ (Nat.le_trans idx5 (by decide))] at hvd
    (try dsimp only); (try k_fold)
    simp only [AllLt, and_true] at m3
    iterate 11 walk1
    refine comp_law nm T0 rfl (by k_asm) (by k_asm) (by assumption) ?tn ?fn
    case tn =>
      intro g' k' t' I' oI' C' oC' D' m' ys' h' tk' E' hlo' hhi' hC' hx' F' N' off' ne' hMark'
      (try simp only [LCg.Off3, and_true] at off')
      (try k_fold)
      k_steps
    case fn =>
      intro g' ys' hy'
      (try k_fold)
      k_steps)
end
end Mine
end
theorem PySem.Challenge.cw_ny0110_01_holds : PySem.Challenge.rw_ny0110_01.Holds := by
  exact Mine.t
