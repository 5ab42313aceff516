import PyProof.Rows.All
import Wide.All
import OpenK.AllK
import Wide.FinOn
import PySem.Challenge.RW_mj0033_01
set_option Elab.async false

section
open PySem PySem.W PyProof.Rows
namespace Mine
set_option maxRecDepth 100000 in
set_option maxHeartbeats 8000000 in
open_top hd for PySem.Challenge.rw_mj0033_01
end Mine
end

section
open PySem PySem.W PyProof.Rows PySem.Calls
namespace Mine

noncomputable abbrev KK (w : World) : Frag := hd.heap_39 w.params
noncomputable abbrev PR : Program := Challenge.rw_mj0033_01.row.prog
noncomputable abbrev LO : List Str := looseW hd.view_39 [Str.ofString "_twin_re_1", Str.ofString "_find_unsafe"]

/-- entering a def of the written part; the heap of the call is the base -/
theorem enterK {w : World} {A : Around} {s : Shared} {K : Frag}
    {R : Result → Shared → Prop} {name qual : Str} {params : Arguments} {body : List Stmt} {scope : Scope} {dV kV doc pm cdv ct oc : Value} {an od : Option Addr} {osl : Array (Option Value)} {f : Addr} {args : Args} {binds : List (Str × Value)}
    (X : K.In s.heap) (hlim : s.heap.NoLimit)
    (ho : K.lookup f = some ⟨oc, od, .func (fnOf name qual params body scope dV kV doc pm an cdv ct), osl⟩) (hcd : codeIn K cdv qual = true) (hroom : A.depth < recursionLimit)
    (hbind : BindsTo s (fnOf name qual params body scope dV kV doc pm an cdv ct) args binds) (hloc : ∀ y ∈ binds, scope.names.lookup y.1 = some .local)
    (h : ∀ L h₁, Fr s.heap L h₁ (fun y => binds.reverse.lookup y) → News s.heap L h₁ [] → K.In s.heap →
      wpAny (model PR w) (A.deeper (envOf qual scope L f cdv)) (execs body (envOf qual scope L f cdv))
        (fun fl s' => R (.ok (.ret (match fl with | .ret v => v | _ => .none))) s')
        (fun _ _ => False)
        { s with heap := h₁, toks := s.toks + binds.length })
    (hco : scope.isCoroutine = false := by rfl) (hgen : scope.isGenerator = false := by rfl) (hk : scope.kind = .function := by rfl)
    (hcell : ∀ x ∈ scope.names, x.2 ≠ .cell := by decide) : codeAny (model PR w) A (.call (.ref f) args) R s := by
  refine codeAny_call_def (fd := fnOf name qual params body scope dV kV doc pm an cdv ct) (body := body) (binds := binds) hroom (X _ _ ho) rfl hlim (codeRec_of X hcd) rfl hbind hcell hloc (fun h₁ hns hk₁ => ?_) hco hgen hk
  exact wpAny_mono (h _ h₁ ⟨hns, hk₁, Nat.le_refl _⟩ News.nil X) (fun _ _ x => x) (fun _ _ x => x.elim)

end Mine
end

section
open PySem PySem.W PyProof.Rows PySem.Calls
namespace Mine
open PySem.Sre

noncomputable def CODE : Array Nat := #[14, 17, 4, 1, 1, 21, 9, 0, 604043296, 1, 0, 0, 0, 0, 0, 8, 4, 0, 13, 14, 21, 9, 0, 604043296, 1, 0, 0, 0, 0, 0, 8, 4, 0, 1]

noncomputable def safeC (c : Nat) : Bool := isWord c || [64, 37, 43, 61, 58, 44, 46, 47, 45].contains c

noncomputable def bitsC (c : Nat) : Bool := decide (c < 256) && (CODE.getD (6 + (1 + c / 32)) 0).testBit (c % 32)
noncomputable def bitsD (c : Nat) : Bool := decide (c < 256) && (CODE.getD (21 + (1 + c / 32)) 0).testBit (c % 32)
theorem bitsCD (c : Nat) : bitsC c = bitsD c := by
  by_cases h : c < 256
  · have : ∀ c < 256, bitsC c = bitsD c := by decide +kernel
    exact this c h
  · simp [bitsC, bitsD, h]
theorem bits_safe (c : Nat) : (bitsC c || isWord c) = safeC c := by
  by_cases h : c < 256
  · have : ∀ c < 256, (bitsC c || isWord c) = safeC c := by decide +kernel
    exact this c h
  · have e : bitsC c = false := by simp [bitsC, h]
    rw [e]
    unfold safeC isWord isDigit
    simp only [List.contains_eq_mem, List.mem_cons, List.not_mem_nil, or_false]
    have : ∀ k, k < 256 → c ≠ k := fun k hk e => h (e ▸ hk)
    simp [this]

theorem inSet5 (c : Nat) (seen : Sre.Seen) : ∃ seen', inSet CODE c CODE.size 5 true seen = .ok (!safeC c, seen') := by
  rw [← bits_safe]
  have hs : CODE.size = 34 := rfl
  rw [hs]
  unfold inSet
  simp only [show ops[CODE.getD (5 + 0) 0]? = some Op.NEGATE from rfl]
  unfold inSet
  simp only [show ops[CODE.getD (5 + 1 + 0) 0]? = some Op.CHARSET from rfl]
  cases hb : bitsC c
  · have hb' : ¬ ((decide (c < 256) && (CODE.getD (5 + 1 + (1 + c / 32)) 0).testBit (c % 32)) = true) := by
      have : (decide (c < 256) && (CODE.getD (5 + 1 + (1 + c / 32)) 0).testBit (c % 32)) = false := hb
      rw [this]; exact Bool.false_ne_true
    rw [if_neg hb']
    unfold inSet
    simp only [show ops[CODE.getD (5 + 1 + 9 + 0) 0]? = some Op.CATEGORY from rfl]
    have hcat : category (CODE.getD (5 + 1 + 9 + 1) 0) c = .ok (isWord c) := by
      show category 4 c = _
      unfold category
      simp [Except.map]
    rw [hcat]
    cases hw : isWord c
    · simp only [bind, Except.bind]
      unfold inSet
      simp only [show ops[CODE.getD (5 + 1 + 9 + 2 + 0) 0]? = some Op.FAILURE from rfl]
      exact ⟨_, rfl⟩
    · exact ⟨_, rfl⟩
  · have hb' : (decide (c < 256) && (CODE.getD (5 + 1 + (1 + c / 32)) 0).testBit (c % 32)) = true := hb
    rw [if_pos hb']
    exact ⟨_, rfl⟩

theorem inSet20 (c : Nat) (seen : Sre.Seen) : ∃ seen', inSet CODE c CODE.size (18 + 2) true seen = .ok (!safeC c, seen') := by
  rw [← bits_safe, bitsCD]
  have hs : CODE.size = 34 := rfl
  rw [hs]
  unfold inSet
  simp only [show ops[CODE.getD (18 + 2 + 0) 0]? = some Op.NEGATE from rfl]
  unfold inSet
  simp only [show ops[CODE.getD (18 + 2 + 1 + 0) 0]? = some Op.CHARSET from rfl]
  cases hb : bitsD c
  · have hb' : ¬ ((decide (c < 256) && (CODE.getD (18 + 2 + 1 + (1 + c / 32)) 0).testBit (c % 32)) = true) := by
      have : (decide (c < 256) && (CODE.getD (18 + 2 + 1 + (1 + c / 32)) 0).testBit (c % 32)) = false := hb
      rw [this]; exact Bool.false_ne_true
    rw [if_neg hb']
    unfold inSet
    simp only [show ops[CODE.getD (18 + 2 + 1 + 9 + 0) 0]? = some Op.CATEGORY from rfl]
    have hcat : category (CODE.getD (18 + 2 + 1 + 9 + 1) 0) c = .ok (isWord c) := by
      show category 4 c = _
      unfold category
      simp [Except.map]
    rw [hcat]
    cases hw : isWord c
    · simp only [bind, Except.bind]
      unfold inSet
      simp only [show ops[CODE.getD (18 + 2 + 1 + 9 + 2 + 0) 0]? = some Op.FAILURE from rfl]
      exact ⟨_, rfl⟩
    · exact ⟨_, rfl⟩
  · have hb' : (decide (c < 256) && (CODE.getD (18 + 2 + 1 + (1 + c / 32)) 0).testBit (c % 32)) = true := hb
    rw [if_pos hb']
    exact ⟨_, rfl⟩

theorem admitted_none (m : M) (hc : m.code = CODE) : ∀ (fuel s : Nat) (seen : Sre.Seen), (∀ i, s ≤ i → i < m.lim → safeC (m.text.getD i 0) = true) →
    ∃ seen', m.admitted fuel s seen = .ok (none, seen')
  | 0, _, seen, _ => ⟨seen, rfl⟩
  | fuel + 1, s, seen, h => by
    unfold M.admitted
    by_cases hl : s ≥ m.lim
    · exact ⟨seen, by rw [if_pos hl]⟩
    · rw [if_neg hl]
      obtain ⟨seen₁, e⟩ := inSet5 (m.text.getD s 0) seen
      rw [hc, e, h s (Nat.le_refl _) (by omega)]
      exact admitted_none m hc fuel (s + 1) seen₁ fun i hi hi' => h i (by omega) hi'

theorem admitted_some (m : M) (hc : m.code = CODE) : ∀ (fuel s : Nat) (seen : Sre.Seen), m.lim < s + fuel → (∃ i, s ≤ i ∧ i < m.lim ∧ safeC (m.text.getD i 0) = false) →
    ∃ i seen', m.admitted fuel s seen = .ok (some i, seen') ∧ i < m.lim ∧ safeC (m.text.getD i 0) = false
  | 0, s, seen, hf, ⟨i, h1, h2, _⟩ => by omega
  | fuel + 1, s, seen, hf, ⟨i, h1, h2, h3⟩ => by
    unfold M.admitted
    rw [if_neg (by omega)]
    obtain ⟨seen₁, e⟩ := inSet5 (m.text.getD s 0) seen
    rw [hc, e]
    cases hs : safeC (m.text.getD s 0)
    · exact ⟨s, seen₁, rfl, by omega, hs⟩
    · refine admitted_some m hc fuel (s + 1) seen₁ (by omega) ⟨i, ?_, h2, h3⟩
      rcases Nat.lt_or_ge s i with h | h
      · exact h
      · have : i = s := by omega
        subst this; rw [hs] at h3; cases h3


theorem step_in (m : M) (hout : m.outcome = none) (hans : m.answer = none) (hcode : m.code = CODE) (hpc : m.pc = 18) (hpos : m.pos < m.lim) (hun : safeC (m.text.getD m.pos 0) = false) :
    ∃ seen', m.step = { m with seen := seen', pc := 33, pos := m.pos + 1 } := by
  obtain ⟨code, text, lim, start, lastStart, wholeText, mustAdvance, pc, pos, handed, outermost, marks, lastmark, lastindex, loops, inner, frames, weight, answer, seen, outcome⟩ := m
  dsimp only at *
  subst hout hans hcode hpc
  unfold M.step
  simp only [Option.isSome_none, Bool.false_eq_true, if_false]
  rw [if_pos (show 18 < CODE.size from by decide)]
  unfold M.exec
  simp only [M.word, show ops[CODE.getD (18 + 0) 0]? = some Op.IN from rfl]
  rw [if_neg (by omega)]
  have ha : ∀ sn c, accepts CODE 18 c sn = inSet CODE c CODE.size (18 + 2) true sn := fun sn c => rfl
  rw [ha]
  obtain ⟨seen₁, e⟩ := inSet20 (text.getD pos 0) (seen.add (CODE.getD (18 + 0) 0))
  rw [e, hun]
  exact ⟨_, rfl⟩

theorem step_success (m : M) (hout : m.outcome = none) (hans : m.answer = none) (hcode : m.code = CODE) (hpc : m.pc = 33) (hw : m.wholeText = false) (hm : m.mustAdvance = false) :
    ∃ seen', m.step = { m with seen := seen', handed := m.pos, answer := some true } := by
  obtain ⟨code, text, lim, start, lastStart, wholeText, mustAdvance, pc, pos, handed, outermost, marks, lastmark, lastindex, loops, inner, frames, weight, answer, seen, outcome⟩ := m
  dsimp only at *
  subst hout hans hcode hpc hw hm
  unfold M.step
  simp only [Option.isSome_none, Bool.false_eq_true, if_false]
  rw [if_pos (show 33 < CODE.size from by decide)]
  unfold M.exec
  simp only [M.word, show ops[CODE.getD (33 + 0) 0]? = some Op.SUCCESS from rfl, Bool.false_and, Bool.or_false, Bool.and_false, Bool.false_eq_true, if_false]
  exact ⟨_, rfl⟩

theorem step_back (m : M) (f : Sre.Frame) (hout : m.outcome = none) (hans : m.answer = some true) (hf : m.frames = [f]) (hw : f.wait = .nextStart) :
    m.step.outcome = none ∧ m.step.answer = some true ∧ m.step.frames = [] := by
  obtain ⟨code, text, lim, start, lastStart, wholeText, mustAdvance, pc, pos, handed, outermost, marks, lastmark, lastindex, loops, inner, frames, weight, answer, seen, outcome⟩ := m
  dsimp only at *
  subst hout hans hf
  unfold M.step
  simp only [Option.isSome_none, Bool.false_eq_true, if_false]
  unfold M.resume
  rw [hw]
  exact ⟨rfl, rfl, rfl⟩

theorem step_end (m : M) (b : Bool) (hout : m.outcome = none) (hans : m.answer = some b) (hf : m.frames = []) :
    m.step.outcome = some (if b then Sre.Outcome.matched else Sre.Outcome.failed) := by
  obtain ⟨code, text, lim, start, lastStart, wholeText, mustAdvance, pc, pos, handed, outermost, marks, lastmark, lastindex, loops, inner, frames, weight, answer, seen, outcome⟩ := m
  dsimp only at *
  subst hout hans hf
  unfold M.step
  simp only [Option.isSome_none, Bool.false_eq_true, if_false]

theorem runFor_done (n : Nat) (m : M) (h : m.outcome.isSome = true) : m.runFor n = m := by
  cases n with
  | zero => rfl
  | succ n => unfold M.runFor; rw [if_pos h]
theorem runFor_step (n : Nat) (m : M) (h : m.outcome = none) : m.runFor (n + 1) = m.step.runFor n := by
  rw [M.runFor, if_neg (by rw [h]; exact Bool.false_ne_true)]

noncomputable def M0 (text : Array Nat) : M :=
  { code := CODE, text := text, lim := text.size, start := 0, pc := 18, pos := 0, handed := 0, marks := #[], mustAdvance := false, seen := ({} : Sre.Seen).add 14, lastStart := text.size }

theorem forSearch_eq (text : Array Nat) (h : 0 < text.size) : forSearch CODE text 0 0 text.size false = (M0 text).attemptFrom 0 true := by
  unfold forSearch
  simp only [show (header CODE).1 = 1 from rfl, show (header CODE).2 = 18 from rfl]
  rw [if_neg (by rw [Bool.or_eq_true]; simp only [decide_eq_true_eq]; omega)]
  rfl
theorem forSearch_nil (text : Array Nat) (h : text.size = 0) : ((forSearch CODE text 0 0 text.size false).runFor 4).outcome = some .failed := by
  have e : forSearch CODE text 0 0 text.size false = ({ M0 text with lastStart := 0 }).say false := by
    unfold forSearch
    simp only [show (header CODE).1 = 1 from rfl, show (header CODE).2 = 18 from rfl]
    rw [if_pos (by simp [h])]
    rfl
  rw [e, runFor_step _ _ rfl, runFor_done _ _ (by rw [step_end _ false rfl rfl rfl]; rfl)]
  exact step_end _ false rfl rfl rfl

theorem search_safe (text : Array Nat) (h : text.all safeC = true) : ((forSearch CODE text 0 0 text.size false).runFor 4).outcome = some .failed := by
  rcases Nat.eq_zero_or_pos text.size with h0 | h0
  · exact forSearch_nil text h0
  · rw [forSearch_eq text h0]
    have hall : ∀ i, 0 ≤ i → i < (M0 text).lim → safeC ((M0 text).text.getD i 0) = true := fun i _ hi => by
      have hi' : i < text.size := hi
      have := Array.all_eq_true.mp h i hi'
      show safeC (text.getD i 0) = true
      simpa [Array.getD, hi'] using this
    obtain ⟨seen', e⟩ := admitted_none (M0 text) rfl ((M0 text).lim + 1 - 0) 0 (M0 text).seen hall
    have e2 : (M0 text).attemptFrom 0 true = { M0 text with seen := seen' }.say false := by
      unfold M.attemptFrom
      rw [if_neg (by rw [show (M0 text).hasFirstSet = true from rfl]; decide), e]
    rw [e2, runFor_step _ _ rfl, runFor_done _ _ (by rw [step_end _ false rfl rfl rfl]; rfl)]
    exact step_end _ false rfl rfl rfl

theorem search_unsafe (text : Array Nat) (h : text.all safeC = false) : ((forSearch CODE text 0 0 text.size false).runFor 4).outcome = some .matched := by
  have hex : ∃ i, 0 ≤ i ∧ i < (M0 text).lim ∧ safeC ((M0 text).text.getD i 0) = false := by
    refine Classical.byContradiction fun hn => ?_
    have : text.all safeC = true := Array.all_eq_true.mpr fun i hi => by
      cases hc : safeC text[i] with
      | true => rfl
      | false => exact absurd ⟨i, Nat.zero_le _, hi, by show safeC (text.getD i 0) = false; simpa [Array.getD, hi] using hc⟩ hn
    rw [h] at this; cases this
  have h0 : 0 < text.size := by
    obtain ⟨i, _, hi, _⟩ := hex
    have hi' : i < text.size := hi
    omega
  rw [forSearch_eq text h0]
  obtain ⟨i, seen', e, hi, hun⟩ := admitted_some (M0 text) rfl ((M0 text).lim + 1 - 0) 0 (M0 text).seen (by omega) hex
  have e2 : (M0 text).attemptFrom 0 true = { M0 text with seen := seen', start := i, pos := i, handed := i, lastmark := -1, lastindex := -1, weight := 1, frames := [{ wait := .nextStart, pc := 18, pos := i, outermost := true }] } := by
    unfold M.attemptFrom
    rw [if_neg (by rw [show (M0 text).hasFirstSet = true from rfl]; decide), e]
    rfl
  rw [e2, runFor_step _ _ rfl]
  obtain ⟨seen₂, e3⟩ := step_in { M0 text with seen := seen', start := i, pos := i, handed := i, lastmark := -1, lastindex := -1, weight := 1, frames := [{ wait := .nextStart, pc := 18, pos := i, outermost := true }] } rfl rfl rfl rfl hi hun
  rw [e3, runFor_step _ _ rfl]
  dsimp only
  obtain ⟨seen₃, e4⟩ := step_success { M0 text with seen := seen₂, start := i, pos := i + 1, pc := 33, handed := i, lastmark := -1, lastindex := -1, weight := 1, frames := [{ wait := .nextStart, pc := 18, pos := i, outermost := true }] } rfl rfl rfl rfl rfl rfl
  rw [e4]
  obtain ⟨b1, b2, b3⟩ := step_back { M0 text with seen := seen₃, start := i, pos := i + 1, pc := 33, handed := i + 1, answer := some true, lastmark := -1, lastindex := -1, weight := 1, frames := [{ wait := .nextStart, pc := 18, pos := i, outermost := true }] } _ rfl rfl rfl rfl
  rw [runFor_step _ _ rfl, runFor_step _ _ b1]
  exact step_end _ true b1 b2 b3

end Mine
end

section
open PySem PySem.W PyProof.Rows PySem.Calls
namespace Mine
open PySem.Sre PySem.Builtin PySem.Builtin.Re

theorem reDrive_now (m : Sre.M) (h : (m.runFor 4).outcome.isSome = true) : reDrive (2 ^ 64) m = pure (m.runFor 4) := by
  have e : (2 : Nat) ^ 64 = 18446744073709551615 + 1 := by decide
  rw [e, reDrive]
  exact if_pos h

theorem wpAny_forIn_quiet {M : Model} {A : Around} {E : Value → Shared → Prop} {s : Shared} {g : Nat → PUnit → Sem (ForInStep PUnit)} {Q : PUnit → Shared → Prop}
    (hg : ∀ i, wpAny M A (g i ⟨⟩) (fun r s' => r = .yield ⟨⟩ ∧ s' = s) E s) (h : Q ⟨⟩ s) : ∀ l : List Nat, wpAny M A (forIn l PUnit.unit g) Q E s
  | [] => wpAny_pure h
  | a :: l => by
    rw [List.forIn_cons]
    refine wpAny_bind (wpAny_mono (hg a) (fun r s' e => ?_) fun _ _ e => e)
    obtain ⟨rfl, rfl⟩ := e
    exact wpAny_forIn_quiet hg h l

theorem runToEnd {M : Model} {A : Around} {E : Value → Shared → Prop} {s : Shared} {m : Sre.M} {b : Bool} {Q : Option Sre.M → Shared → Prop}
    (ho : (m.runFor 4).outcome = some (if b then Sre.Outcome.matched else Sre.Outcome.failed)) (h : Q (if b then some (m.runFor 4) else none) s) :
    wpAny M A (reRunToEnd m) Q E s := by
  unfold reRunToEnd
  rw [reDrive_now m (by rw [ho]; rfl)]
  refine wpAny_bind (wpAny_pure ?_)
  refine wpAny_bind (wpAny_forIn_quiet (fun i => ?_) ?_ _)
  · split
    · exact wpAny_bind (wpAny_rule (wpAny_pure ⟨rfl, rfl⟩))
    · exact wpAny_pure ⟨rfl, rfl⟩
  rw [ho]
  cases b <;> exact wpAny_pure h

theorem newMatch0 {M : Model} {A : Around} {E : Value → Shared → Prop} {s : Shared} {m : Sre.M} {p v : Value} {i j : Nat} {Q : Value → Shared → Prop}
    (h : ∀ a h', (∀ b o, s.heap.get? b = some o → h'.get? b = some o) → Q (.ref a) { s with heap := h' }) : wpAny M A (reNewMatch p v 0 i j m) Q E s := by
  unfold reNewMatch
  simp only [List.range_zero, List.any_nil, List.flatMap_nil, Bool.false_eq_true, if_false]
  refine wpAny_bind (wpAny_newTuple ?_ (by size_fits))
  unfold newFields
  refine wpAny_newObj_type ?_ (by size_fits)
  exact h _ _ fun b o e => Heap.get?_push_of_some _ (Heap.get?_push_of_some _ e)

set_option maxRecDepth 100000 in
set_option maxHeartbeats 1000000 in
theorem search_builtin {w : World} {A : Around} {s : Shared} {x : Str} {t : Tok} {R : Result → Shared → Prop}
    (X : (hd.heap_39 w.params).In s.heap) (hx : x.length ≤ 16777216)
    (h1 : x.cps.all safeC = true → R (.ok (.ret .none)) s)
    (h2 : x.cps.all safeC = false → ∀ a h', (∀ b o, s.heap.get? b = some o → h'.get? b = some o) → R (.ok (.ret (.ref a))) { s with heap := h' }) :
    codeAny (model PR w) A (.builtin "re.Pattern.search" ⟨[.ref 43, .str x t], []⟩) R s := by
  refine codeAny_builtin (b := Builtin.«re.Pattern.search») (entryFor_of_fast (by kernel_rfl)) ?_
  unfold Builtin.«re.Pattern.search»
  have o43 := X 43 _ rfl
  have o42 := X 42 _ rfl
  refine wpAny_bind ?_
  unfold reTarget
  dsimp only
  refine wpAny_bind (wpAny_of_eq (a := [some (.str x t), none, none]) rfl ?_)
  dsimp only
  refine wpAny_bind (wpAny_pure (wpAny_bind (wpAny_pure (wpAny_bind (wpAny_fieldsOf o43 rfl ?_)))))
  refine wpAny_bind (wpAny_of_eq (a := (x.cps, 0)) rfl ?_)
  dsimp only
  rw [if_neg (by decide), if_neg (by decide)]
  refine wpAny_bind (wpAny_of_eq (a := ()) rfl ?_)
  refine wpAny_bind ?_
  unfold reRawItems
  refine wpAny_bind (wpAny_seqItems o42 rfl (wpAny_pure (wpAny_pure ?_)))
  dsimp only
  have hlim : Min.min ((2 : Int) ^ 63 - 1).toNat x.cps.size = x.cps.size := by
    have : x.cps.size ≤ 16777216 := hx
    have e : ((2 : Int) ^ 63 - 1).toNat = 9223372036854775807 := by decide
    rw [e]; omega
  have hpos : Min.min (Int.toNat 0) x.cps.size = 0 := by simp
  rw [hlim, hpos]
  simp only [Option.getD_some, List.map_toArray, List.map_cons, List.map_nil, reRawOf]
  show wpAny _ _ (reAnswer _ (forSearch CODE x.cps 0 0 x.cps.size false)) _ _ s
  unfold reAnswer
  refine wpAny_bind ?_
  cases hs : x.cps.all safeC
  · refine runToEnd (b := true) (search_unsafe x.cps hs) ?_
    refine wpAny_bind ?_
    show wpAny _ _ (reNewMatch _ _ 0 _ _ _) _ _ s
    exact newMatch0 fun a h' hk => wpAny_pure (h2 hs a h' hk)
  · refine runToEnd (b := false) (search_safe x.cps hs) ?_
    exact wpAny_pure (h1 hs)

theorem sig_search : Manifest.signature? "re.Pattern.search" = some ⟨.keywords, "Pattern.search", "search", .self, [⟨"string", .posOrKw, true⟩, ⟨"pos", .posOrKw, false⟩, ⟨"endpos", .posOrKw, false⟩]⟩ := by kernel_rfl
set_option maxRecDepth 100000 in
set_option maxHeartbeats 1000000 in
theorem find_unsafe {w : World} {A : Around} {s : Shared} {x : Str} {t : Tok} {Q E : Value → Shared → Prop}
    (X : (hd.heap_39 w.params).In s.heap) (hx : x.length ≤ 16777216)
    (h1 : x.cps.all safeC = true → Q .none s)
    (h2 : x.cps.all safeC = false → ∀ a h', (∀ b o, s.heap.get? b = some o → h'.get? b = some o) → Q (.ref a) { s with heap := h' }) :
    wpAny (model PR w) A (call (.ref 51) [.str x t]) Q E s := by
  have o43 := X 43 _ rfl
  have o51 := X 51 _ rfl
  refine wpAny_call (codeAny_of_tree ?_)
  show wpAny _ _ (callAny (.ref 51) ⟨[.str x t], []⟩) _ _ s
  unfold callAny
  dsimp only
  refine wpAny_bind (wpAny_load o51 ?_)
  dsimp only
  rw [if_pos (by decide)]
  show wpAny _ _ (if (Value.type "builtin_function_or_method" != Value.type "method") = true then do
          checkBoundCall "re.Pattern.search" { pos := [.ref 43, Value.str x t] }
          again (Code.builtin "re.Pattern.search" { pos := [.ref 43, Value.str x t] })
        else again (Code.call (.builtin "re.Pattern.search") { pos := [.ref 43, Value.str x t] })) _ _ s
  rw [if_pos (by decide)]
  refine wpAny_bind ?_
  unfold checkBoundCall
  rw [sig_search]
  dsimp only
  rw [show builtinKind "re.Pattern.search" = some .method by kernel_rfl]
  dsimp only
  rw [if_neg (by decide)]
  refine wpAny_bind (wpAny_isInstance (T := "re.Pattern") (b := false) ⟨_, o43, rfl⟩ (by rw [isSubtype_type]; kernel_rfl) ?_)
  rw [if_neg (by decide +kernel)]
  refine wpAny_bind ?_
  have hty : wpAny (model PR w) (A.under (Code.call (Value.ref 51) { pos := [Value.str x t] })) (isType (.ref 43)) (fun b s' => b = false ∧ s' = s) (fun e s' => E e s') s := by
    unfold isType loadHead
    exact wpAny_bind (wpAny_loadPart o43 (wpAny_pure ⟨rfl, rfl⟩))
  refine wpAny_mono hty (fun b s' e => ?_) fun _ _ e => e
  obtain ⟨rfl, rfl⟩ := e
  rw [if_neg Bool.false_ne_true]
  refine wpAny_bind (wpAny_typeOf (T := "re.Pattern") ⟨_, o43, rfl⟩ ?_)
  dsimp only
  refine wpAny_of_eq (a := ()) (by kernel_rfl) ?_
  refine wpAny_pure ⟨Code.quiet_builtin _ (by decide +kernel), ?_⟩
  exact search_builtin X hx h1 h2
end Mine
end

section
open PySem PySem.W PyProof.Rows PySem.Calls
namespace Mine

theorem truthyS {prog : Program} {w : World} {A : Around} {E : Value → Shared → Prop} {s : Shared} {x : Str} {t : Tok} {Q : Bool → Shared → Prop} (hx : x.length ≤ 1000000)
    (h : ∀ k, Q (!decide (x.length = 0)) { s with toks := k }) : wpAny (model prog w) A (truthy (.str x t)) Q E s := by
  refine P.truthy_str (by omega) ?_
  have e : ((x.length : Int) != 0) = !decide (x.length = 0) := by
    by_cases h0 : x.length = 0
    · simp [h0]
    · simp [h0]
  rw [e]; exact h _

noncomputable def Is51 (h : Heap) : Prop := ∃ o vs', h.get? 51 = some o ∧ o.cls = .type "builtin_function_or_method" ∧ o.data = .fields vs'
noncomputable def Post51 (M : Model) (A : Around) (Q E : Value → Shared → Prop) (vs : List Value) (s₁ : Shared) : Prop := Is51 s₁.heap ∧ wpAny M A (call (.ref 51) vs) Q E s₁
theorem Post51.intro {w : World} {M : Model} {A : Around} {Q E : Value → Shared → Prop} {vs : List Value} {s₁ : Shared} (X : (hd.heap_39 w.params).In s₁.heap) (h : wpAny M A (call (.ref 51) vs) Q E s₁) : Post51 M A Q E vs s₁ :=
  ⟨⟨_, _, X 51 _ rfl, rfl, rfl⟩, h⟩
theorem Fr.more {h₀ h h' : Heap} {L : Addr} {m : Str → Option Value} (F : Fr h₀ L h m) (hk : ∀ b o, h.get? b = some o → h'.get? b = some o) : Fr h₀ L h' m :=
  ⟨F.ns.keeps hk, fun b o e => hk b o (F.keep b o e), F.above⟩
theorem News.more {h₀ h h' : Heap} {L : Addr} {news : List (Addr × Obj)} (N : News h₀ L h news) (hk : ∀ b o, h.get? b = some o → h'.get? b = some o) : News h₀ L h' news :=
  fun p hp => ⟨hk _ _ (N p hp).1, (N p hp).2⟩
theorem callWith_find {M : Model} {A : Around} {E : Value → Shared → Prop} {s : Shared} {pos : Pos} {env : Env} {e : Expr} {rest : List Expr} {Q : Value → Shared → Prop}
    (h : wpAny M A (spliced (backTo pos (starEach (e :: rest) env))) (fun vs s₁ => Post51 M A Q E vs s₁) E s)
    (he : starEach (e :: rest) env = (false, eval e env) :: starEach rest env := by rfl) (hplain : (backTo pos (starEach rest env)).any (·.1) = false := by rfl) :
    wpAny M A (callWith pos (.ref 51) [] (backTo pos (starEach (e :: rest) env)) []) Q E s := by
  rw [he] at h ⊢
  have hp : (backTo pos ((false, eval e env) :: starEach rest env)).any (·.1) = false := by show (false || (backTo pos (starEach rest env)).any (·.1)) = false; rw [hplain]; rfl
  have h' := evalArgs_plain (f := .ref 51) (Q := fun x s₁ => Is51 s₁.heap ∧ wpAny M A (call (.ref 51) x.pos x.kw) Q E s₁) h
  unfold callWith
  refine wpAny_bind (wpAny_holding (wpAny_mono h' (fun x s₁ h₁ => wpAny_bind (wpAny_standAt ?_)) fun _ _ x => x))
  obtain ⟨⟨o, vs', ho, hc, hd⟩, hcall⟩ := h₁
  simp only [hp, List.any_nil, Bool.or_false]
  refine wpAny_bind (m := keeperOf (.ref 51)) ?_
  unfold keeperOf
  refine wpAny_bind (wpAny_load ho ?_)
  rw [hd, hc]
  simp only [show (Value.type "builtin_function_or_method" != Value.type "method") = true by decide, show (Value.type "builtin_function_or_method" == Value.type "builtin_function_or_method" || Value.type "builtin_function_or_method" == Value.type "method-wrapper") = true by decide, if_true]
  refine wpAny_pure ?_
  exact wpAny_bind (wpAny_mono hcall (fun r s₂ hr => wpAny_bind (wpAny_holding (wpAny_point (wpAny_pure hr)))) fun _ _ x => x)

local macro_rules | `(tactic| walk_at "truthy str") => `(tactic| ((with_reducible refine truthyS (by assumption) ?_); intro _))
local macro_rules | `(tactic| walk_at "callWith ref") => `(tactic| ((with_reducible show wpAny _ _ (callWith _ (Value.ref 51) _ _ _) _ _ _); with_unfolding_all refine callWith_find ?_))
local macro_rules | `(tactic| walk_at "Post51") => `(tactic| (with_reducible refine Post51.intro (Frag.In.keeps (by assumption) (Fr.keep (by assumption))) ?_))
local macro_rules | `(tactic| walk_at "call ref") => `(tactic| ((with_reducible show wpAny _ _ (call (Value.ref 51) _) _ _ _); (with_reducible refine find_unsafe (by exact Frag.In.keeps (by assumption) (Fr.keep (by assumption))) (Nat.le_trans (by assumption) (by decide : (1000000 : Nat) ≤ 16777216)) ?h1 ?h2); (case' h1 => intro hsafe); (case' h2 => (intro hsafe a51 h51 hkeep; have F51 := Fr.more (by assumption) hkeep; have N51 := News.more (by assumption) hkeep))))

noncomputable def quoteS (x : Str) : Str := if x.length = 0 then Str.ofString "''" else if x.cps.all safeC = true then x else Str.ofString "'" ++ Txt.replace x (Str.ofString "'") (Str.ofString "'\"'\"'") ++ Str.ofString "'"
theorem quoteS_nil {x : Str} (h : x.length = 0) : Str.ofString "''" = quoteS x := (if_pos h).symm
theorem quoteS_safe {x : Str} (h : ¬ x.length = 0) (h' : x.cps.all safeC = true) : x = quoteS x := by unfold quoteS; rw [if_neg h, if_pos h']
theorem quoteS_un {x : Str} (h : ¬ x.length = 0) (h' : x.cps.all safeC = false) : Str.ofString "'" ++ Txt.replace x (Str.ofString "'") (Str.ofString "'\"'\"'") ++ Str.ofString "'" = quoteS x := by
  unfold quoteS; rw [if_neg h, if_neg (by rw [h']; exact Bool.false_ne_true)]
theorem replace_len (x y z : Str) : (Txt.replace x y z).length ≤ x.length + (x.length + 1) * z.length := by
  unfold Txt.replace
  split
  · omega
  · have h1 := StrLaws.occ_length_le x y 0 x.length (x.length + 1)
    have hy : (Builtin.Str.glued y (Builtin.Str.partsBetween x (Builtin.Str.occurrences x y 0 x.length (x.length + 1)) y.length)).length = x.length := by rw [StrLaws.glued_between_self]
    rw [size_glued, length_partsBetween, Nat.add_sub_cancel] at hy
    rw [size_glued, length_partsBetween, Nat.add_sub_cancel]
    have h2 : (Builtin.Str.occurrences x y 0 x.length (x.length + 1)).length * z.length ≤ (x.length + 1) * z.length := Nat.mul_le_mul_right _ h1
    omega
theorem len5 : (Str.ofString "'\"'\"'").length = 5 := by decide +kernel
theorem len1 : (Str.ofString "'").length = 1 := by decide +kernel
theorem callReplace {prog : Program} {w : World} {A : Around} {E : Value → Shared → Prop} {s : Shared} {x : Str} {t u v : Tok} {Q : Value → Shared → Prop} (hu : u ≠ 0) (hv : v ≠ 0) (huv : u ≠ v) (hx : x.length ≤ 1000000)
    (hq : ∀ t' k, (Txt.replace x (Str.ofString "'") (Str.ofString "'\"'\"'")).length ≤ 6000005 → Q (.str (Txt.replace x (Str.ofString "'") (Str.ofString "'\"'\"'")) t') { s with toks := k }) :
    wpAny (model prog w) A (call (.builtin "str.replace") [.str x t, .str (Str.ofString "'") u, .str (Str.ofString "'\"'\"'") v]) Q E s := by
  refine SC.replace hu hv huv (by decide +kernel) ?_ fun t' k => hq t' k ?_
  · rw [len5]; omega
  · have := replace_len x (Str.ofString "'") (Str.ofString "'\"'\"'")
    rw [len5] at this; omega
local macro_rules | `(tactic| walk_at "call builtin:str.replace") => `(tactic| ((with_reducible refine callReplace (Nat.succ_ne_zero _) (Nat.succ_ne_zero _) (Nat.ne_of_lt (Nat.lt_succ_self _)) (by assumption) ?_); intro tR kR hR))

set_option maxRecDepth 100000 in
set_option maxHeartbeats 4000000 in
theorem quote_spec {w : World} {mg mb : Str → Option Value} {A : Around} {s : Shared} {x : Str} {t : Tok} {Q E : Value → Shared → Prop}
    (X : (hd.heap_39 w.params).In s.heap) (T : TopRead hd.view_39 LO mg mb s.heap) (hh : A.handled = none) (hdp : A.depth < recursionLimit) (hx : x.length ≤ 1000000)
    (hQ : ∀ r h' tk tk', r = quoteS x → (∀ b o, s.heap.get? b = some o → h'.get? b = some o) → Q (.str r tk') { s with heap := h', toks := tk }) :
    wpAny (model Challenge.rw_mj0033_01.row.prog w) A (call (.ref 58) [.str x t]) Q E s := by
  revert X; k_fill; intro X
  refine wpAny_call ?_
  refine' enterK (binds := [(Str.ofString "s", .str x t)]) X T.nolimit ?k6 ?k7 hdp ?k9 ?kB ?_ ?c2 ?c3 ?c4 ?c5
  (case k6 => k_is)
  (case k7 => k_is)
  (case k9 => exact BindsTo.of_eq rfl)
  (case kB => exact locs rfl)
  (case c2 => exact rfl)
  (case c3 => exact rfl)
  (case c4 => exact rfl)
  (case c5 => decide)
  intro L h₁ F N X
  (try k_fold)
  k_steps
  · exact hQ _ _ _ _ (quoteS_nil (by assumption)) (Fr.keep (by assumption))
  · exact hQ _ _ _ _ (quoteS_un (by assumption) (by assumption)) (Fr.keep (by assumption))
  · exact hQ _ _ _ _ (quoteS_safe (by assumption) (by assumption)) (Fr.keep (by assumption))
end Mine
end

section
open PySem PySem.W PyProof.Rows PySem.Calls
namespace Mine

structure Tab (h : Heap) (ps : Array Value) : Prop where
  code : h.IsCode 49 45 ps
  tab : h.TableAt 49 45 ps

theorem Tab.keeps {h h' : Heap} {ps : Array Value} (t : Tab h ps) (hk : ∀ b o, h.get? b = some o → h'.get? b = some o) : Tab h' ps := ⟨t.code.keeps hk, t.tab.keeps hk⟩

theorem Tab.at {h h' : Heap} {ps : Array Value} (t : Tab h ps) (h1 : ∀ o, h.get? 45 = some o → h'.get? 45 = some o) (h2 : ∀ o, h.get? 49 = some o → h'.get? 49 = some o) : Tab h' ps := by
  refine ⟨?_, ?_⟩
  · obtain ⟨o, vs, file, tf, flags, tg, inF, text, tt, op, a, r1, r2, r3, r4, r5, r6, b, r⟩ := t.code
    exact ⟨o, vs, file, tf, flags, tg, inF, text, tt, op, h2 _ a, r1, r2, r3, r4, r5, r6, h1 _ b, r⟩
  · obtain ⟨⟨o, vs, a, r⟩, u⟩ := t.tab
    exact ⟨⟨o, vs, h2 _ a, r⟩, h1 _ u⟩
theorem Tab.lt {h : Heap} {ps : Array Value} (t : Tab h ps) : 45 < h.objs.size ∧ 49 < h.objs.size := by
  obtain ⟨⟨o, vs, a, r⟩, u⟩ := t.tab
  exact ⟨Heap.lt_size u, Heap.lt_size a⟩
structure Gd (w : World) (mg mb : Str → Option Value) (bm : Addr) (ob : Obj) (h : Heap) (ps : Array Value) : Prop where
  K : (hd.heap_39 w.params).In h
  T : TopRead hd.view_39 LO mg mb h
  M : BMod h mainGlobals mg bm ob
  tb : Tab h ps

section
variable {w : World} {mg mb : Str → Option Value} {bm : Addr} {ob : Obj} {h h' h₀ : Heap} {ps ps' : Array Value}
theorem no45 (P : Params) : (hd.heap_39 P).lookup 45 = none := rfl
theorem Gd.keeps (g : Gd w mg mb bm ob h ps) (hk : ∀ b o, h.get? b = some o → h'.get? b = some o) : Gd w mg mb bm ob h' ps :=
  ⟨g.K.keeps hk, g.T.keeps hk, g.M.keeps hk, g.tb.keeps hk⟩
theorem in45 (X : (hd.heap_39 w.params).In h) (hx : Heap.ExtBut 45 h h') : (hd.heap_39 w.params).In h' := fun a o e =>
  hx a o (fun ea => by rw [ea, no45] at e; cases e) (X a o e)
theorem top45 (T : TopRead hd.view_39 LO mg mb h) (hx : Heap.ExtBut 45 h h') : TopRead hd.view_39 LO mg mb h' := by
  obtain ⟨mc, h1, h2⟩ := T.nolimit
  exact ⟨T.g.extBut hx (by decide), T.b.extBut hx (by decide), ⟨mc, h1.extBut hx (by decide), h2⟩, T.builtins, T.free⟩
theorem Gd.ext (g : Gd w mg mb bm ob h ps) (hx : Heap.ExtBut 45 h h') (t : Tab h' ps') : Gd w mg mb bm ob h' ps' :=
  ⟨in45 g.K hx, top45 g.T hx, g.M.extBut g.tb.tab hx, t⟩
theorem ext_hide : Heap.ExtBut 45 h (h.hide 45) := fun _ _ hb e => (Heap.hide_ne h hb).trans e
theorem Fr.ext45 {L : Addr} {m : Str → Option Value} (F : Fr h₀ L h m) (h0 : h₀.get? 45 = none) (hL : L ≠ 45) (hx : Heap.ExtBut 45 h h') : Fr h₀ L h' m :=
  ⟨F.ns.extBut hx hL, fun b o e => hx b o (fun eb => by rw [eb, h0] at e; cases e) (F.keep b o e), F.above⟩
end

section
variable {M : Model} {A : Around} {E : Value → Shared → Prop} {s : Shared}
theorem genCode {env : Env} {c P : Addr} {ps : Array Value} {pos : Pos} {q : Str} {scope : Scope} {Q : Value → Shared → Prop} (hc : env.code = .ref c) (hok : s.heap.IsCode c P ps) (htab : s.heap.TableAt c P ps)
    (hQ : ∀ code h' tk more, Heap.ExtBut P s.heap h' → s.heap.objs.size ≤ h'.objs.size → h'.IsCode c P (ps ++ more) → h'.TableAt c P (ps ++ more) → Q code { s with heap := h', toks := tk }) :
    wpAny M A (genexprCode env pos q scope) Q E s := by
  cases hnf : codeAmong pos ps.toList with
  | none => exact wpAny_genexprCodeX hc hok htab hnf fun c' h' tk hx hge hlt h1 _ h2 _ => hQ _ h' tk _ hx (Nat.le_trans hge (Nat.le_of_lt hlt)) h1 h2
  | some cv =>
    obtain ⟨o, vs, file, tf, flags, tg, inF, text, tt, op, ho, hd, h11, h2, h7, h9, h10, hop, hpd, htr, hne⟩ := id hok
    unfold genexprCode codeAt
    rw [hc, if_neg (show ¬ ((Value.ref c == Value.none) = true) from Bool.false_ne_true)]
    refine wpAny_bind (wpAny_fieldsOf ho hd ?_)
    rw [h11]
    refine wpAny_bind (wpAny_fieldsOf hop hpd ?_)
    rw [hnf]
    exact wpAny_pure (hQ cv s.heap s.toks #[] (Heap.ExtBut.refl _ _) (Nat.le_refl _) (by simpa using hok) (by simpa using htab))
end
end Mine
end

section
open PySem PySem.W PyProof.Rows PySem.Calls
namespace Mine

abbrev gscope : Scope := { kind := ScopeKind.function, names := [(Str.ofString ".0", NameKind.local), (Str.ofString "arg", NameKind.local), (Str.ofString "quote", NameKind.globalImplicit)], isGenerator := true, isCoroutine := false }

theorem gl_quote {w : World} {mg mb : Str → Option Value} {h : Heap} (X : (hd.heap_39 w.params).In h) (T : TopRead hd.view_39 LO mg mb h) : mg (Str.ofString "quote") = some (.ref 58) := mg_of X T.g rfl

theorem quoteElt {w : World} {mg mb : Str → Option Value} {A : Around} {s : Shared} {env : Env} {p1 p2 p3 : Pos} {m : Str → Option Value} {x : Str} {t : Tok} {Q E : Value → Shared → Prop}
    (X : (hd.heap_39 w.params).In s.heap) (T : TopRead hd.view_39 LO mg mb s.heap) (hk : env.scope = gscope) (hg : env.globals = mainGlobals)
    (hh : A.handled = none) (hdp : A.depth < recursionLimit) (hx : x.length ≤ 1000000) (hns : s.heap.Ns env.locals m) (hm : m (Str.ofString "arg") = some (.str x t))
    (hQ : ∀ r h' tk tk', r = quoteS x → (∀ b o, s.heap.get? b = some o → h'.get? b = some o) → Q (.str r tk') { s with heap := h', toks := tk }) :
    wpAny (model PR w) A (eval (.Call (.Name (Str.ofString "quote") p1) [.Name (Str.ofString "arg") p2] [] p3) env) Q E s := by
  have kf : env.scope.kind = .function := by rw [hk]
  have k1 : env.kindOf (Str.ofString "quote") = some .globalImplicit := by unfold Env.kindOf; rw [hk]; rfl
  have k2 : env.kindOf (Str.ofString "arg") = some .local := by unfold Env.kindOf; rw [hk]; rfl
  have hns' : s.heap.Ns env.globals mg := by rw [hg]; exact T.g
  refine Call_ (Calls.Name_function_global kf k1 (Calls.loadGlobal_global hns' (gl_quote X T) ?_) (by decide))
  refine callWith_K X rfl (Calls.spliced_cons ?_)
  refine wpAny_Name (wpAny_loadName_local kf k2 hns hm ?_) (by decide)
  refine Calls.spliced_nil ⟨X, ?_⟩
  exact quote_spec X T hh hdp hx hQ

theorem genQuote {w : World} {mg mb : Str → Option Value} {bm : Addr} {ob : Obj} {ps : Array Value} {A : Around} {s : Shared} {env : Env} {p1 p2 p3 px pos : Pos} {iter : Expr} {l L : Addr} {vs : List Value} {xs : List Str}
    {Q E : Value → Shared → Prop} (hcode : env.code = .ref 49) (hglob : env.globals = mainGlobals)
    (g : Gd w mg mb bm ob s.heap ps) (hh : A.handled = none) (hdp : A.depth + 4 < recursionLimit) (G : AllBare s.gens) (hL : L < s.heap.objs.size) (h45 : 45 < L)
    (hl : s.heap.IsList l vs.toArray) (hv : StrsAre vs xs) (hlen : ∀ x ∈ xs, x.length ≤ 1000000)
    (hit : ∀ Q' : Value → Shared → Prop, Q' (.ref l) s → wpAny (model PR w) A (eval iter env) Q' E s) (hs : ∀ x, genFold iter env x = pure x)
    (hclos : closureFor gscope env = pure [])
    (hQ : ∀ a s₅ more, Heap.ExtBut 45 s.heap s₅.heap → AllBare s₅.gens → s₅.os = s.os → Tab s₅.heap (ps ++ more) →
      Gen PR w A L a xs.length (fun j y => ∃ u, y = .str (quoteS (xs.getD j Str.empty)) u) s₅ → Q (.ref a) s₅) :
    wpAny (model PR w) A (eval (.GeneratorExp (.Call (.Name (Str.ofString "quote") p1) [.Name (Str.ofString "arg") p2] [] p3) [⟨.Name (Str.ofString "arg") px, iter, [], 0⟩] gscope pos) env) Q E s := by
  refine wpAny_GeneratorExp_walksQD hh rfl hclos (by decide) rfl rfl rfl (by omega) (hit _ ?_) hs
  have hlt : l < s.heap.objs.size := by obtain ⟨_, e, _⟩ := hl; exact Heap.lt_size e
  have hl45 : l ≠ 45 := fun e => by
    obtain ⟨o, ho, hc, _⟩ := hl
    rw [e, g.tb.tab.2] at ho; cases ho; exact absurd hc (by simp)
  refine wpAny_pyIter_list hl ⟨g.T.nolimit.push _, ?_⟩
  have gp := g.keeps (h' := s.heap.push { cls := .type "list_iterator", data := .fields #[.ref l, .int 0 0] }) fun _ _ e => Heap.get?_push_of_some _ e
  refine genCode hcode gp.tb.code gp.tb.tab fun code h₃ tk₃ more hx₃ hsz hc₃ ht₃ => ?_
  have g₃ := gp.ext (h' := h₃) hx₃ ⟨hc₃, ht₃⟩
  have M₃ : BMod h₃ env.globals mg bm ob := by rw [hglob]; exact g₃.M
  refine wpAny_builtinsFor M₃.ns M₃.name M₃.ne M₃.obj M₃.cls M₃.dict M₃.data ?_
  have e₃ : Heap.ExtBut 45 s.heap h₃ := fun b o hb e => hx₃ b o hb (Heap.get?_push_of_some _ e)
  have hsz' : s.heap.objs.size < h₃.objs.size := by
    have : (s.heap.push { cls := .type "list_iterator", data := .fields #[.ref l, .int 0 0] }).objs.size ≤ h₃.objs.size := hsz
    rw [Heap.size_push] at this; exact this
  have hst : h₃.IsListIter s.heap.objs.size l 0 ∧ h₃.IsList l vs.toArray := by
    refine ⟨⟨_, hx₃ _ _ ?_ (Heap.get?_push_size _ rfl), rfl, rfl⟩, hl.extBut e₃ hl45⟩
    exact Nat.ne_of_gt (Nat.lt_trans h45 hL)
  refine ⟨s.heap.objs.size, [s.heap.objs.size, l], [s.heap.objs.size], vs.toArray.size, _, _, (fun _ => true), (fun j y => ∃ u, y = .str (quoteS (xs.getD j Str.empty)) u), rfl,
    (fun A' hA => Walks.list hA _ _ (Nat.ne_of_lt hlt) vs.toArray), hst, ?_, g₃.T.nolimit, ?_, ?_, ?_⟩
  · intro b hb
    rcases List.mem_cons.mp hb with rfl | hb
    · exact hsz'
    · rw [List.mem_singleton.mp hb]; exact Nat.lt_trans hlt hsz'
  · intro hm
    have h1 : cStatics = s.heap.objs.size := List.mem_singleton.mp hm
    have h2 : (2 : Nat) < s.heap.objs.size := Nat.lt_trans (by decide : (2 : Nat) < 45) (Nat.lt_trans h45 hL)
    exact Nat.ne_of_lt h2 h1
  · intro href hhref
    refine ⟨fun A' E' i v s₂ m₂ hA hd' hu hP hn hm hk => wpAny_pure ⟨rfl, _, _, rfl, fun _ _ e => e⟩, fun A' E' i v s₂ m₂ hA hd' hu hP _ hn hm hk => ?_⟩
    have hk' : ∀ b o, b ≠ s.heap.objs.size → h₃.get? b = some o → s₂.heap.get? b = some o := fun b o hb e =>
      hk b (List.mem_range.mpr (Heap.lt_size e)) (fun q => hb (List.mem_singleton.mp q)) o (hhref b o e)
    have hk2 : Heap.ExtBut 45 s.heap s₂.heap := fun b o hb e => hk' b o (Nat.ne_of_lt (Heap.lt_size e)) (e₃ b o hb e)
    have hv' : vs[i]? = some v := by simpa using hP
    have hi : i < xs.length := by rw [← hv.length]; exact (List.getElem?_eq_some_iff.mp hv').1
    obtain ⟨t, ht⟩ := hv.get i xs[i] (List.getElem?_eq_getElem hi)
    rw [hv'] at ht
    have hvx : v = .str xs[i] t := Option.some.inj ht
    subst hvx
    refine quoteElt (in45 g.K hk2) (top45 g.T hk2) rfl hglob hA (by omega) (hlen _ (List.getElem_mem hi)) hn hm fun r h' tk tk' hr hkk => ⟨⟨tk', ?_⟩, h', tk, rfl, hkk⟩
    rw [hr]; simp [List.getD_eq_getElem?_getD, hi]
  · intro a h₅ tk gs hgb hag hsz₅ hk₅ W hat
    have hp : passing (fun _ => true) vs.toArray.size 0 = List.range vs.length := by
      simp [passing]
    have hpass : (passing (fun _ => true) vs.toArray.size 0).length = xs.length := by
      rw [hp, List.length_range, hv.length]
    have hget : ∀ j i, (passing (fun _ => true) vs.toArray.size 0)[j]? = some i → i = j := fun j i e => by
      rw [hp] at e
      obtain ⟨_, e⟩ := List.getElem?_eq_some_iff.mp e
      simpa using e.symm
    refine hQ a _ more (fun b o hb e => hk₅ b o (e₃ b o hb e)) (G.push hgb) rfl (Tab.keeps ⟨hc₃, ht₃⟩ hk₅) ?_
    rw [← hpass]
    refine Gen.imp (F := fun j y => ∃ i, (passing (fun _ => true) vs.toArray.size 0)[j]? = some i ∧ ∃ u, y = .str (quoteS (xs.getD i Str.empty)) u) ⟨_, _, _, _, W, hat, (fun i s' st => st.1.typeIs), List.mem_cons_self, ?_, ?_⟩ ?_
    · intro b hb
      show b < h₅.objs.size
      rw [hsz₅]
      rcases List.mem_cons.mp hb with rfl | hb
      · exact Nat.lt_succ_self _
      · rcases List.mem_cons.mp hb with rfl | hb
        · exact Nat.lt_succ_of_lt hag
        · exact Nat.lt_succ_of_lt (Nat.lt_trans (List.mem_range.mp hb) hag)
    · intro b hb
      rcases List.mem_cons.mp hb with rfl | hb
      · exact Nat.lt_trans hL hsz'
      · rw [List.mem_singleton.mp hb]; exact hL
    · rintro j y ⟨i, hi, hy⟩
      rw [hget j i hi] at hy
      exact hy

set_option maxRecDepth 100000 in
set_option maxHeartbeats 4000000 in
theorem join_spec {w : World} {mg mb : Str → Option Value} {bm : Addr} {ob : Obj} {ps : Array Value} {A : Around} {s : Shared} {l : Addr} {vs : List Value} {xs : List Str} {Q E : Value → Shared → Prop}
    (g : Gd w mg mb bm ob s.heap ps) (hh : A.handled = none) (hdp : A.depth + 5 < recursionLimit) (G : AllBare s.gens)
    (hl : s.heap.IsList l vs.toArray) (hv : StrsAre vs xs) (hlen : ∀ x ∈ xs, x.length ≤ 1000000) (hok : JoinOk (Str.ofString " ") (xs.map quoteS) = true) (hn : xs.length ≤ 1000000)
    (hQ : ∀ s' tk' more, Heap.ExtBut 45 s.heap s'.heap → AllBare s'.gens → s'.os = s.os → Tab s'.heap (ps ++ more) → Q (.str (Txt.join (Str.ofString " ") (xs.map quoteS)) tk') s') :
    wpAny (model Challenge.rw_mj0033_01.row.prog w) A (call (.ref 50) [.ref l]) Q E s := by
  have X := g.K
  have T := g.T
  revert X; k_fill; intro X
  refine wpAny_call ?_
  refine' enterK (binds := [(Str.ofString "split_command", .ref l)]) X T.nolimit ?k6 ?k7 (Nat.lt_of_le_of_lt (Nat.le_add_right _ _) hdp) ?k9 ?kB ?_ ?c2 ?c3 ?c4 ?c5
  (case k6 => k_is)
  (case k7 => k_is)
  (case k9 => exact BindsTo.of_eq rfl)
  (case kB => exact locs rfl)
  (case c2 => exact rfl)
  (case c3 => exact rfl)
  (case c4 => exact rfl)
  (case c5 => decide)
  intro L h₁ F N X
  (try k_fold)
  k_steps
  have hL : L < h₁.objs.size := F.ns.lt
  have h45 : 45 < L := Nat.lt_of_lt_of_le (Heap.lt_size g.tb.tab.2) F.above
  refine genQuote (l := l) (L := L) (vs := vs) (xs := xs) rfl rfl (g.keeps F.keep) hh ?_ G hL h45 (hl.at fun o e => F.keep _ _ e) hv hlen (fun Q' hq => ld F rfl hq) (fun _ => rfl) rfl ?_
  · show A.depth + 1 + 4 < recursionLimit
    omega
  intro a s₅ more hx hb hos tb hgen
  refine Calls.spliced_nil ?_
  have Fh : Fr (s.heap.hide 45) L s₅.heap (fun y => List.lookup y [(Str.ofString "split_command", Value.ref l)].reverse) :=
    Fr.ext45 ⟨F.ns, fun b o e => F.keep b o (Heap.of_hide e), (by rw [Heap.hide_size]; exact F.above)⟩ (Heap.hide_self _ _) (Nat.ne_of_gt h45) hx
  have emap : (List.range xs.length).map (fun j => quoteS (xs.getD j Str.empty)) = xs.map quoteS := by
    apply List.ext_getElem?
    intro j
    by_cases hj : j < xs.length
    · simp [hj]
    · simp [hj]
  refine join_rowsK Fh hb hgen (Nat.le_refl _) (fun j => quoteS (xs.getD j Str.empty)) (fun j v hv => hv) (by rw [emap]; exact hok) ?_ (by simp only [sizeLine]; omega)
  intro s' t' F' hb' hos' hk'
  rw [emap]
  refine hQ s' t' more ?_ hb' (hos'.trans hos) ?_
  · intro b o hb e
    exact hk' b o (Nat.le_trans (Nat.le_of_lt (Heap.lt_size e)) F.above) (hx b o hb (F.keep b o e))
  · have lt := g.tb.lt
    exact tb.at (fun o e => hk' 45 o (Nat.le_of_lt (Nat.lt_of_lt_of_le lt.1 F.above)) e) (fun o e => hk' 49 o (Nat.le_of_lt (Nat.lt_of_lt_of_le lt.2 F.above)) e)
end Mine
end

section
open PySem PySem.W PyProof.Rows PySem.Calls
namespace Mine

structure Tr45 (ps : Array Value) (s s' : Shared) : Prop where
  ext : Heap.ExtBut 45 s.heap s'.heap
  bare : AllBare s'.gens
  os : s'.os = s.os
  tab : ∃ more, Tab s'.heap (ps ++ more)

theorem Tr45.trans {ps more : Array Value} {s s' s'' : Shared} (a : Heap.ExtBut 45 s.heap s'.heap) (o : s'.os = s.os) (b : Tr45 (ps ++ more) s' s'') : Tr45 ps s s'' := by
  obtain ⟨more', t⟩ := b.tab
  exact ⟨a.trans b.ext, b.bare, b.os.trans o, ⟨more ++ more', by rw [← Array.append_assoc]; exact t⟩⟩
theorem Tab.ext {a : Addr} {h h' : Heap} {ps : Array Value} (t : Tab h ps) (hx : Heap.ExtBut a h h') (h1 : 45 ≠ a) (h2 : 49 ≠ a) : Tab h' ps :=
  t.at (fun o e => hx _ o h1 e) (fun o e => hx _ o h2 e)

theorem listComp45 {w : World} {env : Env} {elt iter : Expr} {x : Str} {px pos : Pos} {scope : Scope} {A : Around} {s : Shared} {l : Addr} {vs : List Value} {ps : Array Value} {Q E : Value → Shared → Prop} (F : Nat → Value → Prop)
    (hfree : ∀ y ∈ scope.names, y.2 ≠ .free) (hcell : ∀ y ∈ scope.names, y.2 ≠ .cell) (hkind : scope.kind = .function)
    (hnames : ∀ y ∈ scope.names, y.2 = .local → scope.names.lookup y.1 = some .local) (hx : scope.names.lookup x = some .local)
    (hit : ∀ Q' : Value → Shared → Prop, Q' (.ref l) s → wpAny (model PR w) A (eval iter env) Q' E s)
    (hh : A.handled = none) (hl : s.heap.IsList l vs.toArray) (tb : Tab s.heap ps) (G : AllBare s.gens) (hsz : vs.length ≤ 1000000)
    (helt : ∀ C i v (s₂ : Shared) m₂ more (E' : Value → Shared → Prop), vs[i]? = some v → s₂.heap.Ns C m₂ → m₂ x = some v → Heap.ExtBut 45 s.heap s₂.heap → AllBare s₂.gens → s₂.os = s.os → Tab s₂.heap (ps ++ more) →
      wpAny (model PR w) A (eval elt (compEnv scope C env)) (fun y s₃ => F i y ∧ Tr45 (ps ++ more) s₂ s₃) E' s₂)
    (hQ : ∀ D s' (ys : List Value), s.heap.get? D = none → s'.heap.PlainList D ys.toArray → ys.length = vs.length → (∀ i y, ys[i]? = some y → F i y) → Tr45 ps s s' → Q (.ref D) s')
    (hs : ∀ x, foldedSetIterable iter env x = pure x := by intro _; rfl) :
    wpAny (model PR w) A (eval (.ListComp elt [⟨.Name x px, iter, [], 0⟩] scope pos) env) Q E s := by
  refine wpAny_ListComp hfree hkind hnames (hit _ ?_) hs
  refine wpAny_pyIter_list hl ?_
  have lt45 := tb.lt
  have hlt : l < s.heap.objs.size := by obtain ⟨_, e, _⟩ := hl; exact Heap.lt_size e
  have hl45 : l ≠ 45 := fun e => by
    obtain ⟨o, ho, hc, _⟩ := hl
    rw [e, tb.tab.2] at ho; cases ho; exact absurd hc (by simp)
  generalize hH1 : s.heap.push { cls := .type "list_iterator", data := .fields #[.ref l, .int 0 0] } = H1
  have z1 : H1.objs.size = s.heap.objs.size + 1 := by rw [← hH1, Heap.size_push]
  have k1 : ∀ b o, s.heap.get? b = some o → H1.get? b = some o := fun b o e => hH1 ▸ Heap.get?_push_of_some _ e
  have i1 : H1.IsListIter s.heap.objs.size l 0 := hH1 ▸ ⟨_, Heap.get?_push_size _ rfl, rfl, rfl⟩
  refine wpAny_newObj_type (wpAny_newFunctionEnv hcell (by intro y hy; simp at hy) (fun h₁ hns₁ hsb₁ => ?_) hkind)
  dsimp only at hns₁ hsb₁ ⊢
  generalize hH2 : H1.push { cls := .type "list", dict := none, data := .seq ([] : List Value).toArray } = H2 at hns₁ hsb₁ ⊢
  have z2 : H2.objs.size = s.heap.objs.size + 2 := by rw [← hH2, Heap.size_push, z1]
  have k2 : ∀ b o, H1.get? b = some o → H2.get? b = some o := fun b o e => hH2 ▸ Heap.get?_push_of_some _ e
  have d2 : H2.PlainList H1.objs.size #[] := hH2 ▸ ⟨_, Heap.get?_push_size _ rfl⟩
  have k3 : ∀ b o, b ≠ H2.objs.size → H2.get? b = some o → h₁.get? b = some o := fun b o hb e => hsb₁.extBut b o hb (Heap.get?_push_of_some _ e)
  -- the three new addresses
  have nI : ∀ b o, s.heap.get? b = some o → b ≠ s.heap.objs.size ∧ b ≠ H1.objs.size ∧ b ≠ H2.objs.size := fun b o e => by
    have := Heap.lt_size e
    exact ⟨Nat.ne_of_lt this, Nat.ne_of_lt (z1 ▸ Nat.lt_succ_of_lt this), Nat.ne_of_lt (z2 ▸ Nat.lt_succ_of_lt (Nat.lt_succ_of_lt this))⟩
  have ID : s.heap.objs.size ≠ H1.objs.size := Nat.ne_of_lt (z1 ▸ Nat.lt_succ_self _)
  have IC : s.heap.objs.size ≠ H2.objs.size := Nat.ne_of_lt (z2 ▸ Nat.lt_succ_of_lt (Nat.lt_succ_self _))
  have DC : H1.objs.size ≠ H2.objs.size := Nat.ne_of_lt (by rw [z1, z2]; exact Nat.lt_succ_self _)
  have i3 : h₁.IsListIter s.heap.objs.size l 0 := i1.at fun o e => k3 _ o IC (k2 _ o e)
  have d3 : h₁.PlainList H1.objs.size #[] := d2.at fun o e => k3 _ o DC e
  have keep : ∀ b o, s.heap.get? b = some o → h₁.get? b = some o := fun b o e => k3 b o (nI b o e).2.2 (k2 b o (k1 b o e))
  have fresh : ∀ a, s.heap.objs.size ≤ a → s.heap.get? a = none := fun a ha => by
    cases e : s.heap.get? a with
    | none => rfl
    | some o' => exact absurd (Heap.lt_size e) (Nat.not_lt.mpr ha)
  have I45 : s.heap.objs.size ≠ 45 := Nat.ne_of_gt lt45.1
  have D45 : H1.objs.size ≠ 45 := Nat.ne_of_gt (z1 ▸ Nat.lt_succ_of_lt lt45.1)
  have C45 : H2.objs.size ≠ 45 := Nat.ne_of_gt (z2 ▸ Nat.lt_succ_of_lt (Nat.lt_succ_of_lt lt45.1))
  have I49 : s.heap.objs.size ≠ 49 := Nat.ne_of_gt lt45.2
  have D49 : H1.objs.size ≠ 49 := Nat.ne_of_gt (z1 ▸ Nat.lt_succ_of_lt lt45.2)
  have C49 : H2.objs.size ≠ 49 := Nat.ne_of_gt (z2 ▸ Nat.lt_succ_of_lt (Nat.lt_succ_of_lt lt45.2))
  have loop : ∀ s₃ : Shared, s₃ = { s with heap := h₁, toks := s.toks + ([] : List (Str × Value)).length } →
      codeAny (model PR w) A (.compLoop (.ListComp elt [⟨.Name x px, iter, [], 0⟩] scope pos) 0 (.ref s.heap.objs.size) (.ref H1.objs.size) (compEnv scope H2.objs.size env))
        (fun r s' => ∃ m, s'.heap.Ns H2.objs.size m ∧ ∀ h', Heap.SameBut H2.objs.size s'.heap h' →
            match r with | .ok _ => Q (.ref H1.objs.size) { s' with heap := h' } | .error x => wpAny (model PR w) A (passOn "comprehension.variables-let-go" x (compEnv scope H2.objs.size env)) Q E { s' with heap := h' }) s₃ := by
    rintro s₃ rfl
    refine codeAny_compLoop_tests
      (fun k s' => ∃ m' more, ∃ ys : List Value, s'.heap.IsListIter s.heap.objs.size l ys.length ∧ s'.heap.PlainList H1.objs.size ys.toArray ∧ s'.heap.Ns H2.objs.size m' ∧
        (∀ j y, ys[j]? = some y → F j y) ∧ ys.length ≤ vs.length ∧ k = vs.length + 1 - ys.length ∧ Heap.ExtBut 45 s.heap s'.heap ∧ AllBare s'.gens ∧ s'.os = s.os ∧ Tab s'.heap (ps ++ more)) ?_ (vs.length + 1)
      ⟨_, #[], [], i3, d3, hns₁, by simp, Nat.zero_le _, rfl, fun b o _ e => keep b o e, G, rfl, by simpa using tb.keeps keep⟩
    rintro k s' ⟨m', more, ys, it', acc', ns', hF, hle, rfl, ext, bare, os, tab⟩
    have hl' : s'.heap.IsList l vs.toArray := hl.extBut ext hl45
    by_cases hlt' : ys.length < vs.length
    · refine wpAny_pyNext_list_item it' hl' (x := vs[ys.length]) (by simp [hlt']) fun h₂ it₂ sb₂ => ?_
      refine wpAny_assign_Name (wpAny_storeName_local hx (ns'.sameBut sb₂ (Ne.symm IC)) (fun h₄ ns₄ sb₄ => ?_) (by simp [compEnv, hkind]))
      refine wpAny_pure ?_
      simp only [if_true]
      have ext₄ : Heap.ExtBut 45 s.heap h₄ := fun b o hb e => sb₄.extBut b o (nI b o e).2.2 (sb₂.extBut b o (nI b o e).1 (ext b o hb e))
      have tab₄ : Tab h₄ (ps ++ more) := (tab.ext sb₂.extBut (Ne.symm I45) (Ne.symm I49)).ext sb₄.extBut (Ne.symm C45) (Ne.symm C49)
      refine wpAny_mono (helt H2.objs.size ys.length vs[ys.length] { s' with heap := h₄, toks := _ } _ more _ (by simp [hlt']) ns₄ (by simp) ext₄ bare os tab₄) (fun y s₅ h₅ => ?_) fun _ _ e => e
      obtain ⟨hFy, t5⟩ := h₅
      obtain ⟨more', tab₅⟩ := t5.tab
      have acc₅ : s₅.heap.PlainList H1.objs.size ys.toArray := ((acc'.extBut sb₂.extBut (Ne.symm ID)).extBut sb₄.extBut DC).extBut t5.ext D45
      have it₅ : s₅.heap.IsListIter s.heap.objs.size l (ys.length + 1) := (it₂.at fun o e => sb₄.extBut _ o IC e).at fun o e => t5.ext _ o I45 e
      have ns₅ := ns₄.extBut t5.ext C45
      refine wpAny_list_append_plain (hsz := by simp only [List.size_toArray, sizeLine]; omega) acc₅ fun h₆ acc₆ sb₆ => ?_
      refine ⟨vs.length + 1 - (ys.length + 1), by omega, _, more ++ more', ys ++ [y], ?_, ?_, ns₅.sameBut sb₆ (Ne.symm DC), ?_, ?_, ?_, ?_, t5.bare, t5.os.trans os, ?_⟩
      · rw [List.length_append, List.length_singleton]; exact it₅.at fun o e => sb₆.extBut _ o ID e
      · simpa using acc₆
      · intro j u hj
        rcases Nat.lt_trichotomy j ys.length with h | h | h
        · exact hF j u (by rwa [List.getElem?_append_left h] at hj)
        · subst h; simp at hj; subst hj; exact hFy
        · have hnone : (ys ++ [y])[j]? = none := List.getElem?_eq_none (by rw [List.length_append, List.length_singleton]; omega)
          rw [hnone] at hj; cases hj
      · rw [List.length_append, List.length_singleton]; omega
      · rw [List.length_append, List.length_singleton]
      · exact fun b o hb e => sb₆.extBut b o (nI b o e).2.1 (t5.ext b o hb (ext₄ b o hb e))
      · rw [← Array.append_assoc]
        exact tab₅.ext sb₆.extBut (Ne.symm D45) (Ne.symm D49)
    · have hin : ys.length = vs.length := by omega
      refine wpAny_pyNext_list_end hh it' hl' (by simp [hin]) fun h₂ e₂ => ?_
      refine ⟨m', ns'.extBut e₂ (Ne.symm IC), fun h' sb => ?_⟩
      refine hQ H1.objs.size _ ys (fresh _ (by rw [z1]; exact Nat.le_succ _)) ((acc'.extBut e₂ (Ne.symm ID)).extBut sb.extBut DC) hin hF ⟨?_, bare, os, more, ?_⟩
      · exact fun b o hb e => sb.extBut b o (nI b o e).2.2 (e₂ b o (nI b o e).1 (ext b o hb e))
      · exact (tab.ext e₂ (Ne.symm I45) (Ne.symm I49)).ext sb.extBut (Ne.symm C45) (Ne.symm C49)
  exact codeAny_compStart_list (loop _ rfl) (wpAny_pyIter_listiter i3 (loop _ rfl))

end Mine
end

section
open PySem PySem.W PyProof.Rows PySem.Calls
namespace Mine

inductive Tr where
  | leaf (x : Str)
  | node (ts : List Tr)

theorem Tr.ind {P : Tr → Prop} (hl : ∀ x, P (.leaf x)) (hn : ∀ ts, (∀ t ∈ ts, P t) → P (.node ts)) : ∀ t, P t
  | .leaf x => hl x
  | .node ts => hn ts fun t _ => Tr.ind hl hn t

abbrev listObj (vs : List Value) (n : Nat) : Obj := { cls := .type "list", data := .seq vs.toArray n }

mutual
inductive At (h : Heap) (X : List Addr) : Value → Tr → Prop where
  | leaf (x : Str) (t : Tok) : At h X (.str x t) (.leaf x)
  | node {a : Addr} {n : Nat} {vs : List Value} {ts : List Tr} : a ∉ X → h.get? a = some (listObj vs n) → AtAll h X vs ts → At h X (.ref a) (.node ts)
inductive AtAll (h : Heap) (X : List Addr) : List Value → List Tr → Prop where
  | nil : AtAll h X [] []
  | cons {v : Value} {t : Tr} {vs : List Value} {ts : List Tr} : At h X v t → AtAll h X vs ts → AtAll h X (v :: vs) (t :: ts)
end

theorem AtAll.length {h : Heap} {X : List Addr} : ∀ {vs : List Value} {ts : List Tr}, AtAll h X vs ts → vs.length = ts.length
  | _, _, .nil => rfl
  | _, _, .cons _ r => by simp [r.length]
theorem AtAll.get {h : Heap} {X : List Addr} : ∀ {vs : List Value} {ts : List Tr}, AtAll h X vs ts → ∀ (i : Nat) (v : Value), vs[i]? = some v → ∃ t, ts[i]? = some t ∧ t ∈ ts ∧ At h X v t
  | _, _, .cons a _, 0, v, e => by simp at e; subst e; exact ⟨_, rfl, .head _, a⟩
  | _, _, .cons _ r, i + 1, v, e => by
    obtain ⟨t, h1, h2, h3⟩ := r.get i v (by simpa using e)
    exact ⟨t, by simpa using h1, .tail _ h2, h3⟩

mutual
theorem At.mono {h h' : Heap} {X X' : List Addr} (hk : ∀ a vs n, a ∉ X → h.get? a = some (listObj vs n) → a ∉ X' ∧ h'.get? a = some (listObj vs n)) : ∀ {v : Value} {t : Tr}, At h X v t → At h' X' v t
  | _, _, .leaf x t => .leaf x t
  | _, _, .node ha ho r => .node (hk _ _ _ ha ho).1 (hk _ _ _ ha ho).2 (AtAll.mono hk r)
theorem AtAll.mono {h h' : Heap} {X X' : List Addr} (hk : ∀ a vs n, a ∉ X → h.get? a = some (listObj vs n) → a ∉ X' ∧ h'.get? a = some (listObj vs n)) : ∀ {vs : List Value} {ts : List Tr}, AtAll h X vs ts → AtAll h' X' vs ts
  | _, _, .nil => .nil
  | _, _, .cons a r => .cons (At.mono hk a) (AtAll.mono hk r)
end
theorem At.ext {h h' : Heap} {X : List Addr} {ps : Array Value} {v : Value} {t : Tr} (a : At h X v t) (tb : Tab h ps) (hx : Heap.ExtBut 45 h h') : At h' X v t :=
  At.mono (fun b vs n hb e => ⟨hb, hx b _ (fun q => by rw [q, tb.tab.2] at e; cases e) e⟩) a
theorem AtAll.ext {h h' : Heap} {X : List Addr} {ps : Array Value} {vs : List Value} {ts : List Tr} (a : AtAll h X vs ts) (tb : Tab h ps) (hx : Heap.ExtBut 45 h h') : AtAll h' X vs ts :=
  AtAll.mono (fun b vs n hb e => ⟨hb, hx b _ (fun q => by rw [q, tb.tab.2] at e; cases e) e⟩) a
theorem At.keeps {h h' : Heap} {X : List Addr} {v : Value} {t : Tr} (a : At h X v t) (hx : ∀ b o, h.get? b = some o → h'.get? b = some o) : At h' X v t :=
  At.mono (fun b vs n hb e => ⟨hb, hx b _ e⟩) a
theorem AtAll.keeps {h h' : Heap} {X : List Addr} {vs : List Value} {ts : List Tr} (a : AtAll h X vs ts) (hx : ∀ b o, h.get? b = some o → h'.get? b = some o) : AtAll h' X vs ts :=
  AtAll.mono (fun b vs n hb e => ⟨hb, hx b _ e⟩) a

mutual
noncomputable def wordS : Tr → Str
  | .leaf x => x
  | .node ts => Txt.join (Str.ofString " ") ((wordsS ts).map quoteS)
noncomputable def wordsS : List Tr → List Str
  | [] => []
  | t :: ts => wordS t :: wordsS ts
end
mutual
noncomputable def B : Tr → Nat
  | .leaf x => x.length
  | .node ts => Bs ts
noncomputable def Bs : List Tr → Nat
  | [] => 0
  | t :: ts => 6 * B t + 8 + Bs ts
end
mutual
noncomputable def dpt : Tr → Nat
  | .leaf _ => 0
  | .node ts => dpts ts + 1
noncomputable def dpts : List Tr → Nat
  | [] => 0
  | t :: ts => max (dpt t) (dpts ts)
end
theorem wordsS_eq : ∀ ts : List Tr, wordsS ts = ts.map wordS
  | [] => rfl
  | t :: ts => by rw [wordsS, wordsS_eq ts]; rfl
theorem dpts_mem : ∀ {ts : List Tr} {t : Tr}, t ∈ ts → dpt t ≤ dpts ts
  | _ :: _, _, .head _ => by rw [dpts]; omega
  | _ :: _, _, .tail _ h => by have := dpts_mem h; rw [dpts]; omega
theorem Bs_mem : ∀ {ts : List Tr} {t : Tr}, t ∈ ts → 6 * B t + 8 ≤ Bs ts
  | _ :: _, _, .head _ => by rw [Bs]; omega
  | _ :: _, _, .tail _ h => by have := Bs_mem h; rw [Bs]; omega
theorem Bs_len : ∀ ts : List Tr, 8 * ts.length ≤ Bs ts
  | [] => by simp [Bs]
  | t :: ts => by have := Bs_len ts; rw [Bs, List.length_cons]; omega
theorem quoteS_len (x : Str) : (quoteS x).length ≤ 6 * x.length + 7 := by
  unfold quoteS
  split
  · rename_i h
    have : (Str.ofString "''").length = 2 := by decide +kernel
    omega
  · split
    · omega
    · have h1 := replace_len x (Str.ofString "'") (Str.ofString "'\"'\"'")
      rw [len5] at h1
      rw [Str.length_append, Str.length_append, len1]
      omega
theorem sp1 : (Str.ofString " ").length = 1 := by decide +kernel
theorem join_len_le (l : List Str) : (Txt.join (Str.ofString " ") l).length ≤ (l.map (·.length)).sum + l.length := by
  have := StrLaws.join_length_le (Str.ofString " ") l
  rw [sp1, Nat.mul_one] at this
  show (Builtin.Str.glued (Str.ofString " ") l).length ≤ _
  rw [StrLaws.glued_eq_join]; exact this
theorem sum_quote_le : ∀ ts : List Tr, (∀ t ∈ ts, (wordS t).length ≤ B t) → (((wordsS ts).map quoteS).map (·.length)).sum + ts.length ≤ Bs ts
  | [], _ => by simp [wordsS, Bs]
  | t :: ts, h => by
    have h1 := sum_quote_le ts fun u hu => h u (.tail _ hu)
    have h2 := quoteS_len (wordS t)
    have h3 := h t (.head _)
    simp only [wordsS, List.map_cons, List.sum_cons, List.length_cons, Bs]
    omega
theorem wordS_len : ∀ t : Tr, (wordS t).length ≤ B t := Tr.ind (fun x => by simp [wordS, B]) fun ts ih => by
  have h1 := sum_quote_le ts ih
  have h2 := join_len_le ((wordsS ts).map quoteS)
  simp only [wordS, B]
  simp only [List.length_map, wordsS_eq] at h1 h2 ⊢
  omega
theorem joinOk_le {sep : Str} {l : List Str} (h : (l.map (·.length)).sum + l.length * sep.length ≤ 16777216) : JoinOk sep l = true := by
  unfold JoinOk
  rw [Bool.not_eq_true', StrLaws.joinTotal]
  unfold Builtin.Str.tooLong
  exact decide_eq_false (by have : sizeLine = 16777216 := by decide
                            omega)
theorem joinOk_words (ts : List Tr) (h : Bs ts ≤ 1000000) : JoinOk (Str.ofString " ") ((wordsS ts).map quoteS) = true := by
  have h1 := sum_quote_le ts fun t _ => wordS_len t
  refine joinOk_le ?_
  rw [sp1]
  simp only [List.length_map, wordsS_eq] at h1 ⊢
  omega
end Mine
end

section
open PySem PySem.W PyProof.Rows PySem.Calls
namespace Mine

theorem strsAre_of : ∀ (ys : List Value) (ts : List Tr), ys.length = ts.length → (∀ (i : Nat) (y : Value), ys[i]? = some y → ∃ t u, ts[i]? = some t ∧ y = Value.str (wordS t) u) → StrsAre ys (wordsS ts)
  | [], [], _, _ => .nil
  | [], _ :: _, h, _ => by simp at h
  | _ :: _, [], h, _ => by simp at h
  | y :: ys, t :: ts, h, hF => by
    obtain ⟨t', u, e, rfl⟩ := hF 0 y rfl
    simp at e; subst e
    exact .cons _ u (strsAre_of ys ts (by simpa using h) fun i y hy => by simpa using hF (i + 1) y (by simpa using hy))

noncomputable def WordTells (w : World) (mg mb : Str → Option Value) (bm : Addr) (ob : Obj) (t : Tr) : Prop :=
  ∀ {A : Around} {s : Shared} {v : Value} {X : List Addr} {ps : Array Value} {Q E : Value → Shared → Prop}, Gd w mg mb bm ob s.heap ps → At s.heap X v t → B t ≤ 1000000 → A.handled = none → A.depth + dpt t + 7 < recursionLimit → AllBare s.gens →
    (∀ s' tk', Tr45 ps s s' → Q (.str (wordS t) tk') s') → wpAny (model Challenge.rw_mj0033_01.row.prog w) A (call (.ref 77) [v]) Q E s

set_option maxRecDepth 100000 in
set_option maxHeartbeats 4000000 in
theorem word_leaf {w : World} {mg mb : Str → Option Value} {bm : Addr} {ob : Obj} (x : Str) : WordTells w mg mb bm ob (.leaf x) := by
  intro A s v X₀ ps Q E g hat hB hh hdp G hQ
  cases hat with
  | leaf x t =>
  have X := g.K
  have T := g.T
  revert X; k_fill; intro X
  refine wpAny_call ?_
  refine' enterK (binds := [(Str.ofString "child", .str x t)]) X T.nolimit ?k6 ?k7 (by omega) ?k9 ?kB ?_ ?c2 ?c3 ?c4 ?c5
  (case k6 => k_is)
  (case k7 => k_is)
  (case k9 => exact BindsTo.of_eq rfl)
  (case kB => exact locs rfl)
  (case c2 => exact rfl)
  (case c3 => exact rfl)
  (case c4 => exact rfl)
  (case c5 => decide)
  intro L h₁ F N X
  (try k_fold)
  k_steps
  exact hQ _ _ ⟨fun b o _ e => F.keep b o e, G, rfl, #[], by simpa using g.tb.keeps F.keep⟩
set_option maxRecDepth 100000 in
set_option maxHeartbeats 4000000 in
theorem word_node {w : World} {mg mb : Str → Option Value} {bm : Addr} {ob : Obj} (ts : List Tr) (ih : ∀ t ∈ ts, WordTells w mg mb bm ob t) : WordTells w mg mb bm ob (.node ts) := by
  intro A s v X₀ ps Q E g hat hB hh hdp G hQ
  cases hat with
  | @node a n vs ts ha ho hall =>
  have X := g.K
  have T := g.T
  have hl : s.heap.IsList a vs.toArray := ⟨_, ho, rfl, n, rfl⟩
  revert X; k_fill; intro X
  refine wpAny_call ?_
  refine' enterK (binds := [(Str.ofString "child", .ref a)]) X T.nolimit ?k6 ?k7 (by omega) ?k9 ?kB ?_ ?c2 ?c3 ?c4 ?c5
  (case k6 => k_is)
  (case k7 => k_is)
  (case k9 => exact BindsTo.of_eq rfl)
  (case kB => exact locs rfl)
  (case c2 => exact rfl)
  (case c3 => exact rfl)
  (case c4 => exact rfl)
  (case c5 => decide)
  intro L h₁ F N X
  (try k_fold)
  repeat' (first
    | ((fail_if_success (with_reducible show wpAny _ _ (eval (Expr.ListComp _ _ _ _) _) _ _ _)); (first | (k_unfold; (try dsimp only)) | walk1 | (dsimp only; walk1)))
    | fail "no step")
  have hB' : Bs ts ≤ 1000000 := hB
  have hlen := Bs_len ts
  have hdpt : dpt (.node ts) = dpts ts + 1 := rfl
  refine listComp45 (l := a) (vs := vs) (ps := ps) (F := fun i y => ∃ t u, ts[i]? = some t ∧ y = .str (wordS t) u) (by decide) (by decide) rfl (by decide) rfl (fun Q' hq => ld F rfl hq) hh (hl.at fun o e => F.keep _ _ e) (g.tb.keeps F.keep) G
    (by rw [hall.length]; omega) ?_ ?_
  · intro C i v s₂ m₂ more E' hv hns hm hx hb hos tab
    obtain ⟨t, ht, hmem, hat⟩ := hall.get i v hv
    have hx' : Heap.ExtBut 45 s.heap s₂.heap := fun b o hb e => hx b o hb (F.keep b o e)
    have g₂ : Gd w mg mb bm ob s₂.heap (ps ++ more) := g.ext hx' tab
    refine Call_ (Calls.Name_function_global rfl rfl (Calls.loadGlobal_global g₂.T.g (mg_of g₂.K g₂.T.g rfl) ?_) (by decide))
    refine callWith_K g₂.K rfl (Calls.spliced_cons ?_)
    refine wpAny_Name (wpAny_loadName_local rfl rfl hns hm ?_) (by decide)
    refine Calls.spliced_nil ⟨g₂.K, ?_⟩
    have h1 := Bs_mem hmem
    have h2 := dpts_mem hmem
    refine ih t hmem g₂ (hat.ext g.tb hx') (by omega) hh (by show A.depth + 1 + dpt t + 7 < recursionLimit; omega) hb fun s' tk' tr => ⟨⟨t, tk', ht, rfl⟩, tr⟩
  · intro D s' ys hD hpl hlen' hF tr
    obtain ⟨more, tab⟩ := tr.tab
    have hx' : Heap.ExtBut 45 s.heap s'.heap := fun b o hb e => tr.ext b o hb (F.keep b o e)
    have g' : Gd w mg mb bm ob s'.heap (ps ++ more) := g.ext hx' tab
    refine Calls.spliced_nil ⟨g'.K, ?_⟩
    have hys : StrsAre ys (wordsS ts) := by
      rw [hall.length] at hlen'
      exact strsAre_of ys ts hlen' hF
    refine join_spec (l := D) (vs := ys) (xs := wordsS ts) g' hh (by show A.depth + 1 + 5 < recursionLimit; omega) tr.bare hpl.isList hys ?_ (joinOk_words ts hB') (by rw [wordsS_eq, List.length_map]; omega) ?_
    · intro x hx
      rw [wordsS_eq] at hx
      obtain ⟨t, ht, rfl⟩ := List.mem_map.mp hx
      have h1 := Bs_mem ht
      have h2 := wordS_len t
      omega
    · intro s'' tk' more' hx'' hb'' hos'' tab''
      exact hQ s'' tk' (Tr45.trans (more := more) hx' tr.os ⟨hx'', hb'', hos'', more', tab''⟩)
theorem word_spec {w : World} {mg mb : Str → Option Value} {bm : Addr} {ob : Obj} : ∀ t, WordTells w mg mb bm ob t := Tr.ind word_leaf word_node
end Mine
end

section
open PySem PySem.W PyProof.Rows PySem.Calls
namespace Mine

abbrev tupObj (vs : List Value) (n : Nat) : Obj := { cls := .type "tuple", data := .seq vs.toArray n }
abbrev TupKept (h h' : Heap) : Prop := ∀ b vs n, h.get? b = some (tupObj vs n) → h'.get? b = some (tupObj vs n)

theorem compCore {w : World} {env : Env} {elt iter : Expr} {x : Str} {px pos : Pos} {scope : Scope} {cl : List (Str × Addr)} {A : Around} {s₂ : Shared} {l I : Addr} {vs : List Value} {E : Value → Shared → Prop} {RR : Value → Addr → Result → Shared → Prop}
    (F : Heap → Nat → Value → Prop) (Fm : ∀ h h' i y, TupKept h h' → F h i y → F h' i y)
    (hcell : ∀ y ∈ scope.names, y.2 ≠ .cell) (hkind : scope.kind = .function) (hx : scope.names.lookup x = some .local)
    (hh : A.handled = none) (hI : s₂.heap.IsListIter I l 0) (hl : s₂.heap.IsList l vs.toArray) (hne : l ≠ I) (hsz : vs.length ≤ 1000000)
    (helt : ∀ C i v (s₃ : Shared) m₃ (E' : Value → Shared → Prop), s₂.heap.objs.size ≤ C → vs[i]? = some v → s₃.heap.Ns C m₃ → m₃ x = some v → (∀ b o, b ≠ I → s₂.heap.get? b = some o → s₃.heap.get? b = some o) →
      wpAny (model PR w) A (eval elt (compEnvC scope cl C env)) (fun y s₄ => F s₄.heap i y ∧ Keeps s₃ s₄) E' s₃)
    (hRR : ∀ D C h' tk m' (ys : List Value), s₂.heap.get? D = none → s₂.heap.get? C = none → D ≠ C → h'.Ns C m' → h'.PlainList D ys.toArray → ys.length = vs.length → (∀ i y, ys[i]? = some y → F h' i y) →
      (∀ b o, b ≠ I → s₂.heap.get? b = some o → h'.get? b = some o) → RR (.ref D) C (.ok .next) { s₂ with heap := h', toks := tk }) :
    wpAny (model PR w) A (newList []) (fun acc s₃ => wpAny (model PR w) A (newFunctionEnv scope env.globals cl [] env.qual none .none (some env)) (fun cenv s₄ =>
      codeAny (model PR w) A (.compStart (.ListComp elt [⟨.Name x px, iter, [], 0⟩] scope pos) 0 (.ref I) acc { cenv with scope := relabel scope env }) (RR acc cenv.locals) s₄) E s₃) E s₂ := by
  refine wpAny_newObj_type (wpAny_newFunctionEnv hcell (by intro y hy; simp at hy) (fun h₁ hns₁ hsb₁ => ?_) hkind)
  dsimp only at hns₁ hsb₁ ⊢
  generalize hH2 : s₂.heap.push { cls := .type "list", dict := none, data := .seq ([] : List Value).toArray } = H2 at hns₁ hsb₁ ⊢
  have z2 : H2.objs.size = s₂.heap.objs.size + 1 := by rw [← hH2, Heap.size_push]
  have k2 : ∀ b o, s₂.heap.get? b = some o → H2.get? b = some o := fun b o e => hH2 ▸ Heap.get?_push_of_some _ e
  have d2 : H2.PlainList s₂.heap.objs.size #[] := hH2 ▸ ⟨_, Heap.get?_push_size _ rfl⟩
  have k3 : ∀ b o, b ≠ H2.objs.size → H2.get? b = some o → h₁.get? b = some o := fun b o hb e => hsb₁.extBut b o hb (Heap.get?_push_of_some _ e)
  have nI : ∀ b o, s₂.heap.get? b = some o → b ≠ s₂.heap.objs.size ∧ b ≠ H2.objs.size := fun b o e => by
    have := Heap.lt_size e
    exact ⟨Nat.ne_of_lt this, Nat.ne_of_lt (z2 ▸ Nat.lt_succ_of_lt this)⟩
  have nIi : I ≠ s₂.heap.objs.size ∧ I ≠ H2.objs.size := by
    obtain ⟨o, ho, _⟩ := hI
    exact nI I o ho
  have DC : s₂.heap.objs.size ≠ H2.objs.size := Nat.ne_of_lt (by rw [z2]; exact Nat.lt_succ_self _)
  have keep : ∀ b o, s₂.heap.get? b = some o → h₁.get? b = some o := fun b o e => k3 b o (nI b o e).2 (k2 b o e)
  have d3 : h₁.PlainList s₂.heap.objs.size #[] := d2.at fun o e => k3 _ o DC e
  have i3 : h₁.IsListIter I l 0 := hI.at fun o e => keep _ o e
  have hCle : s₂.heap.objs.size ≤ H2.objs.size := by rw [z2]; exact Nat.le_succ _
  have fresh : ∀ a, s₂.heap.objs.size ≤ a → s₂.heap.get? a = none := fun a ha => by
    cases e : s₂.heap.get? a with
    | none => rfl
    | some o' => exact absurd (Heap.lt_size e) (Nat.not_lt.mpr ha)
  have notTup : ∀ {h h' : Heap} {a : Addr} {oa : Obj}, h.get? a = some oa → (∀ vs n, oa ≠ tupObj vs n) → Heap.ExtBut a h h' → TupKept h h' := fun ha hc hx b vs n e =>
    hx b _ (fun q => by subst q; rw [ha] at e; exact hc vs n (Option.some.inj e)) e
  have loop : ∀ s₃ : Shared, s₃ = { s₂ with heap := h₁, toks := s₂.toks + ([] : List (Str × Value)).length } →
      codeAny (model PR w) A (.compLoop (.ListComp elt [⟨.Name x px, iter, [], 0⟩] scope pos) 0 (.ref I) (.ref s₂.heap.objs.size) (compEnvC scope cl H2.objs.size env))
        (RR (.ref s₂.heap.objs.size) H2.objs.size) s₃ := by
    rintro s₃ rfl
    refine codeAny_compLoop_tests
      (fun k s' => ∃ h' tk m', ∃ ys : List Value, s' = { s₂ with heap := h', toks := tk } ∧ h'.IsListIter I l ys.length ∧ h'.PlainList s₂.heap.objs.size ys.toArray ∧ h'.Ns H2.objs.size m' ∧
        (∀ j y, ys[j]? = some y → F h' j y) ∧ ys.length ≤ vs.length ∧ k = vs.length + 1 - ys.length ∧ (∀ b o, b ≠ I → s₂.heap.get? b = some o → h'.get? b = some o)) ?_ (vs.length + 1)
      ⟨h₁, _, _, [], rfl, i3, d3, hns₁, by simp, Nat.zero_le _, rfl, fun b o _ e => keep b o e⟩
    rintro k s' ⟨H, tk, m', ys, rfl, it', acc', ns', hF, hle, rfl, ext⟩
    have hl' : H.IsList l vs.toArray := hl.at fun o e => ext _ o hne e
    by_cases hlt' : ys.length < vs.length
    · refine wpAny_pyNext_list_item it' hl' (x := vs[ys.length]) (by simp [hlt']) fun h₂ it₂ sb₂ => ?_
      refine wpAny_assign_Name (wpAny_storeName_local (lookup_relabel_local hx) (ns'.sameBut sb₂ (Ne.symm nIi.2)) (fun h₄ ns₄ sb₄ => ?_) (by show (scope.kind == .class || (scope.kind == .module && _)) = false; rw [hkind]; rfl))
      refine wpAny_pure ?_
      simp only [if_true]
      have ext₄ : ∀ b o, b ≠ I → s₂.heap.get? b = some o → h₄.get? b = some o := fun b o hb e => sb₄.extBut b o (nI b o e).2 (sb₂.extBut b o hb (ext b o hb e))
      have t1 : TupKept H h₂ := by
        obtain ⟨o, ho, hc, _⟩ := it'
        exact notTup ho (fun vs n q => by subst q; exact absurd (show Value.type "tuple" = Value.type "list_iterator" from hc) (by decide)) sb₂.extBut
      have t2 : TupKept h₂ h₄ := by
        obtain ⟨oC, es, ep, hoC, hdC, hcC⟩ := ns'.sameBut sb₂ (Ne.symm nIi.2)
        exact notTup hoC (fun vs n q => by subst q; cases hdC) sb₄.extBut
      refine wpAny_mono (helt H2.objs.size ys.length vs[ys.length] { s₂ with heap := h₄, toks := _ } _ _ hCle (by simp [hlt']) ns₄ (by simp) ext₄) (fun y s₅ h₅ => ?_) fun _ _ e => e
      obtain ⟨hFy, h₅, tk₅, rfl, k5⟩ := h₅
      have acc₅ : h₅.PlainList s₂.heap.objs.size ys.toArray := ((acc'.extBut sb₂.extBut (Ne.symm nIi.1)).extBut sb₄.extBut DC).at fun o e => k5 _ o e
      have it₅ : h₅.IsListIter I l (ys.length + 1) := (it₂.at fun o e => sb₄.extBut _ o nIi.2 e).at fun o e => k5 _ o e
      have ns₅ := ns₄.keeps k5
      refine wpAny_list_append_plain (hsz := by simp only [List.size_toArray, sizeLine]; omega) acc₅ fun h₆ acc₆ sb₆ => ?_
      have t3 : TupKept h₅ h₆ := by
        obtain ⟨n, ho⟩ := acc₅
        exact notTup ho (fun vs n q => absurd (show Value.type "list" = Value.type "tuple" from congrArg Obj.cls q) (by decide)) sb₆.extBut
      refine ⟨vs.length + 1 - (ys.length + 1), by omega, h₆, tk₅, _, ys ++ [y], rfl, ?_, ?_, ns₅.sameBut sb₆ (Ne.symm DC), ?_, ?_, ?_, ?_⟩
      · rw [List.length_append, List.length_singleton]; exact it₅.at fun o e => sb₆.extBut _ o nIi.1 e
      · simpa using acc₆
      · intro j u hj
        rcases Nat.lt_trichotomy j ys.length with h | h | h
        · exact Fm _ _ _ _ t3 (Fm _ _ _ _ (fun b vs n e => k5 b _ e) (Fm _ _ _ _ t2 (Fm _ _ _ _ t1 (hF j u (by rwa [List.getElem?_append_left h] at hj)))))
        · subst h; simp at hj; subst hj; exact Fm _ _ _ _ t3 hFy
        · have hnone : (ys ++ [y])[j]? = none := List.getElem?_eq_none (by rw [List.length_append, List.length_singleton]; omega)
          rw [hnone] at hj; cases hj
      · rw [List.length_append, List.length_singleton]; omega
      · rw [List.length_append, List.length_singleton]
      · exact fun b o hb e => sb₆.extBut b o (nI b o e).1 (k5 b o (ext₄ b o hb e))
    · have hin : ys.length = vs.length := by omega
      have t1 : ∀ h₂, Heap.ExtBut I H h₂ → TupKept H h₂ := by
        obtain ⟨o, ho, hc, _⟩ := it'
        exact fun h₂ hx => notTup ho (fun vs n q => by subst q; exact absurd (show Value.type "tuple" = Value.type "list_iterator" from hc) (by decide)) hx
      refine wpAny_pyNext_list_end hh it' hl' (by simp [hin]) fun h₂ e₂ => ?_
      exact hRR s₂.heap.objs.size H2.objs.size h₂ _ m' ys (fresh _ (Nat.le_refl _)) (fresh _ hCle) DC (ns'.extBut e₂ (Ne.symm nIi.2)) (acc'.extBut e₂ (Ne.symm nIi.1)) hin (fun i y hy => Fm _ _ _ _ (t1 _ e₂) (hF i y hy))
        fun b o hb e => e₂ b o hb (ext b o hb e)
  exact codeAny_compStart_list (loop _ rfl) (wpAny_pyIter_listiter i3 (loop _ rfl))


/-- a list comprehension as a value, over a list; a def's own names may be free in it -/
theorem compEval {w : World} {env : Env} {elt iter : Expr} {x : Str} {px pos : Pos} {scope : Scope} {cl : List (Str × Addr)} {A : Around} {s : Shared} {l : Addr} {vs : List Value} {Q E : Value → Shared → Prop}
    (F : Heap → Nat → Value → Prop) (Fm : ∀ h h' i y, TupKept h h' → F h i y → F h' i y)
    (hclos : closureFor scope env = pure cl) (hcell : ∀ y ∈ scope.names, y.2 ≠ .cell) (hkind : scope.kind = .function)
    (hnames : ∀ y ∈ scope.names, y.2 = .local → scope.names.lookup y.1 = some .local) (hx : scope.names.lookup x = some .local)
    (hit : ∀ Q' : Value → Shared → Prop, Q' (.ref l) s → wpAny (model PR w) A (eval iter env) Q' E s)
    (hh : A.handled = none) (hl : s.heap.IsList l vs.toArray) (hsz : vs.length ≤ 1000000)
    (helt : ∀ C i v (s₃ : Shared) m₃ (E' : Value → Shared → Prop), s.heap.objs.size < C → vs[i]? = some v → s₃.heap.Ns C m₃ → m₃ x = some v → (∀ b o, s.heap.get? b = some o → s₃.heap.get? b = some o) →
      wpAny (model PR w) A (eval elt (compEnvC scope cl C env)) (fun y s₄ => F s₄.heap i y ∧ Keeps s₃ s₄) E' s₃)
    (hQ : ∀ D h' tk (ys : List Value), s.heap.get? D = none → h'.PlainList D ys.toArray → ys.length = vs.length → (∀ i y, ys[i]? = some y → F h' i y) →
      (∀ b o, s.heap.get? b = some o → h'.get? b = some o) → Q (.ref D) { s with heap := h', toks := tk })
    (hs : ∀ x, foldedSetIterable iter env x = pure x := by intro _; rfl) :
    wpAny (model PR w) A (eval (.ListComp elt [⟨.Name x px, iter, [], 0⟩] scope pos) env) Q E s := by
  rw [eval_ListComp]
  refine wpAny_comprehension_free (use := none) rfl hs hclos hkind hnames (hit _ (wpAny_pyIter_list hl ?_))
  have hlt : l < s.heap.objs.size := by obtain ⟨_, e, _⟩ := hl; exact Heap.lt_size e
  have keep : ∀ b o, s.heap.get? b = some o → (s.heap.push { cls := .type "list_iterator", data := .fields #[.ref l, .int 0 0] }).get? b = some o := fun b o e => Heap.get?_push_of_some _ e
  refine compCore (s₂ := { s with heap := s.heap.push { cls := .type "list_iterator", data := .fields #[.ref l, .int 0 0] } }) (l := l) (vs := vs) (RR := fun acc C => compPost (model PR w) A E none Q acc C) F Fm hcell hkind hx hh
    ⟨_, Heap.get?_push_size _ rfl, rfl, rfl⟩ (hl.push _) (Nat.ne_of_lt hlt) hsz ?_ ?_
  · intro C i v s₃ m₃ E' hC hv hn hm hk
    refine helt C i v s₃ m₃ E' ?_ hv hn hm fun b o e => hk b o (Nat.ne_of_lt (Heap.lt_size e)) (keep b o e)
    have : (s.heap.push { cls := .type "list_iterator", data := .fields #[.ref l, .int 0 0] }).objs.size ≤ C := hC
    rw [Heap.size_push] at this; exact this
  · intro D C h' tk m' ys hD hC hDC hn hpl hlen hF hk
    refine ⟨m', hn, fun h'' hs'' => ?_⟩
    have t1 : TupKept h' h'' := by
      obtain ⟨oC, es, ep, hoC, hdC, hcC⟩ := hn
      exact fun b vs n e => hs''.extBut b _ (fun q => by subst q; rw [hoC] at e; cases e; cases hdC) e
    have hD' : s.heap.get? D = none := by
      cases e : s.heap.get? D with
      | none => rfl
      | some o => have := keep D o e; rw [hD] at this; cases this
    refine hQ D h'' tk ys hD' (hpl.extBut hs''.extBut hDC) hlen (fun i y hy => Fm _ _ _ _ t1 (hF i y hy)) fun b o e => hs''.extBut b o (by rintro rfl; rw [keep _ _ e] at hC; cases hC) (hk b o (Nat.ne_of_lt (Heap.lt_size e)) (keep b o e))

/-- the same, stored to a local name on its own line -/
theorem compAssign {w : World} {env : Env} {elt iter : Expr} {x y : Str} {px py pos spos : Pos} {scope : Scope} {cl : List (Str × Addr)} {A : Around} {s : Shared} {l : Addr} {vs : List Value} {m : Str → Option Value} {Q : Flow → Shared → Prop} {E : Value → Shared → Prop}
    (F : Heap → Nat → Value → Prop) (Fm : ∀ h h' i y, TupKept h h' → F h i y → F h' i y)
    (hsw : swapsWith (.ListComp elt [⟨.Name x px, iter, [], 0⟩] scope pos) (some (.Name y py)) spos.line env = pure true)
    (hclos : closureFor scope env = pure cl) (hcell : ∀ y ∈ scope.names, y.2 ≠ .cell) (hkind : scope.kind = .function)
    (hnames : ∀ y ∈ scope.names, y.2 = .local → scope.names.lookup y.1 = some .local) (hx : scope.names.lookup x = some .local)
    (hy : env.kindOf y = some .local) (hp : (env.scope.kind == .class || (env.scope.kind == .module && env.locals != env.globals)) = false)
    (hit : ∀ Q' : Value → Shared → Prop, Q' (.ref l) s → wpAny (model PR w) A (eval iter env) Q' E s)
    (hh : A.handled = none) (hl : s.heap.IsList l vs.toArray) (hsz : vs.length ≤ 1000000) (hns : s.heap.Ns env.locals m)
    (helt : ∀ C i v (s₃ : Shared) m₃ (E' : Value → Shared → Prop), s.heap.objs.size < C → vs[i]? = some v → s₃.heap.Ns C m₃ → m₃ x = some v → (∀ b o, s.heap.get? b = some o → s₃.heap.get? b = some o) →
      wpAny (model PR w) A (eval elt (compEnvC scope cl C env)) (fun y s₄ => F s₄.heap i y ∧ Keeps s₃ s₄) E' s₃)
    (hQ : ∀ D h' tk (ys : List Value), s.heap.get? D = none → h'.PlainList D ys.toArray → ys.length = vs.length → (∀ i y, ys[i]? = some y → F h' i y) →
      h'.Ns env.locals (fun z => if z = y then some (.ref D) else m z) →
      (∀ b o, b ≠ env.locals → s.heap.get? b = some o → h'.get? b = some o) → Q .next { s with heap := h', toks := tk })
    (hs : ∀ x, foldedSetIterable iter env x = pure x := by intro _; rfl) :
    wpAny (model PR w) A (exec (.Assign [.Name y py] (.ListComp elt [⟨.Name x px, iter, [], 0⟩] scope pos) spos) env) Q E s := by
  rw [exec_Assign_Name_used _ _ _ _ hsw]
  refine wpAny_bind (wpAny_standAt (wpAny_bind ?_))
  show wpAny _ A (do let _ ← comprehension (.ListComp elt [⟨.Name x px, iter, [], 0⟩] scope pos) scope env _ (newList []) false (eval iter env) (some (assign (.Name y py) env))) _ _ s
  have hlt : l < s.heap.objs.size := by obtain ⟨_, e, _⟩ := hl; exact Heap.lt_size e
  have keep : ∀ b o, s.heap.get? b = some o → (s.heap.push { cls := .type "list_iterator", data := .fields #[.ref l, .int 0 0] }).get? b = some o := fun b o e => Heap.get?_push_of_some _ e
  refine wpAny_bind (wpAny_mono (wpAny_comprehension_free (use := some (assign (.Name y py) env)) (Q := fun _ s' => Q .next s') rfl hs hclos hkind hnames (hit _ (wpAny_pyIter_list hl ?_)))
    (fun _ s' hq => wpAny_pure (wpAny_pure hq)) fun _ _ e => e)
  refine compCore (s₂ := { s with heap := s.heap.push { cls := .type "list_iterator", data := .fields #[.ref l, .int 0 0] } }) (l := l) (vs := vs) (RR := fun acc C => compPost (model PR w) A E (some (assign (.Name y py) env)) (fun _ s' => Q .next s') acc C) F Fm hcell hkind hx hh
    ⟨_, Heap.get?_push_size _ rfl, rfl, rfl⟩ (hl.push _) (Nat.ne_of_lt hlt) hsz ?_ ?_
  · intro C i v s₃ m₃ E' hC hv hn hm hk
    refine helt C i v s₃ m₃ E' ?_ hv hn hm fun b o e => hk b o (Nat.ne_of_lt (Heap.lt_size e)) (keep b o e)
    have : (s.heap.push { cls := .type "list_iterator", data := .fields #[.ref l, .int 0 0] }).objs.size ≤ C := hC
    rw [Heap.size_push] at this; exact this
  · intro D C h' tk m' ys hD hC hDC hn hpl hlen hF hk
    have hD' : s.heap.get? D = none := by
      cases e : s.heap.get? D with
      | none => rfl
      | some o => have := keep D o e; rw [hD] at this; cases this
    have hC' : s.heap.get? C = none := by
      cases e : s.heap.get? C with
      | none => rfl
      | some o => have := keep C o e; rw [hC] at this; cases this
    have hLC : env.locals ≠ C := by rintro rfl; obtain ⟨o, _, _, ho, _⟩ := hns; rw [hC'] at ho; cases ho
    have hLD : env.locals ≠ D := by rintro rfl; obtain ⟨o, _, _, ho, _⟩ := hns; rw [hD'] at ho; cases ho
    have hk' : ∀ b o, s.heap.get? b = some o → h'.get? b = some o := fun b o e => hk b o (Nat.ne_of_lt (Heap.lt_size e)) (keep b o e)
    show wpAny _ A (assign (.Name y py) env (.ref D)) _ _ _
    have hns' : h'.Ns env.locals m := hns.keeps hk'
    refine wpAny_assign_Name (wpAny_storeName_local hy hns' (fun h₂ hn₂ hs₂ => ?_) hp)
    refine ⟨m', hn.sameBut hs₂ (Ne.symm hLC), fun h₃ hs₃ => ?_⟩
    have t1 : TupKept h' h₂ := by
      obtain ⟨oC, es, ep, hoC, hdC, hcC⟩ := hns'
      exact fun b vs n e => hs₂.extBut b _ (fun q => by subst q; rw [hoC] at e; cases e; cases hdC) e
    have t2 : TupKept h₂ h₃ := by
      obtain ⟨oC, es, ep, hoC, hdC, hcC⟩ := hn.sameBut hs₂ (Ne.symm hLC)
      exact fun b vs n e => hs₃.extBut b _ (fun q => by subst q; rw [hoC] at e; cases e; cases hdC) e
    exact hQ D h₃ _ ys hD' ((hpl.extBut hs₂.extBut (Ne.symm hLD)).extBut hs₃.extBut hDC) hlen (fun i y hy => Fm _ _ _ _ t2 (Fm _ _ _ _ t1 (hF i y hy))) (hn₂.sameBut hs₃ hLC)
      fun b o hbL e => hs₃.extBut b o (by rintro rfl; rw [hC'] at e; cases e) (hs₂.extBut b o hbL (hk' b o e))
end Mine
end

section
open PySem PySem.W PyProof.Rows PySem.Calls
namespace Mine

noncomputable def pVal (p : Nat → Bool) (v : Value) : Bool := match v with
  | .str x _ => p (x.cps.getD 0 0)
  | _ => false
noncomputable def fVal (f : Nat → Str) (v y : Value) : Prop := ∃ c u u', v = .str ⟨#[c]⟩ u ∧ y = .str (f c) u'

theorem paired_strs (p : Nat → Bool) (f : Nat → Str) : ∀ (cs : List Nat) (vs ys : List Value), vs.length = cs.length → (∀ (j : Nat) (v : Value), vs[j]? = some v → ∃ c u, cs[j]? = some c ∧ v = Value.str ⟨#[c]⟩ u) →
    Paired (fVal f) (vs.filter (pVal p)) ys → StrsAre ys ((cs.filter p).map f)
  | [], [], _, _, _, h => by cases h; exact .nil
  | [], _ :: _, _, hl, _, _ => by simp at hl
  | _ :: _, [], _, hl, _, _ => by simp at hl
  | c :: cs, v :: vs, ys, hl, hP, h => by
    obtain ⟨c', u, e, rfl⟩ := hP 0 v rfl
    simp at e; subst e
    have ih := paired_strs p f cs vs
    have hP' : ∀ (j : Nat) (v : Value), vs[j]? = some v → ∃ c u, cs[j]? = some c ∧ v = Value.str ⟨#[c]⟩ u := fun j v hv => by simpa using hP (j + 1) v (by simpa using hv)
    have hpv : pVal p (Value.str ⟨#[c]⟩ u) = p c := rfl
    rw [List.filter_cons, hpv] at h
    rw [List.filter_cons]
    cases hp : p c with
    | false =>
      rw [hp] at h
      simp only [Bool.false_eq_true, if_false] at h ⊢
      exact ih ys (by simpa using hl) hP' h
    | true =>
      rw [hp] at h
      simp only [if_true] at h ⊢
      cases h with
      | cons hf hr =>
        obtain ⟨c₂, u₂, u₃, e₁, rfl⟩ := hf
        cases e₁
        exact .cons _ u₃ (ih _ (by simpa using hl) hP' hr)

theorem compStr {w : World} {env : Env} {elt iter : Expr} {x : Str} {px pos : Pos} {ifs : List Expr} {scope : Scope} {cl : List (Str × Addr)} {A : Around} {s : Shared} {z : Str} {t : Tok} {Q E : Value → Shared → Prop}
    (p : Nat → Bool) (f : Nat → Str)
    (hclos : closureFor scope env = pure cl) (hcell : ∀ y ∈ scope.names, y.2 ≠ .cell) (hkind : scope.kind = .function)
    (hnames : ∀ y ∈ scope.names, y.2 = .local → scope.names.lookup y.1 = some .local) (hx : scope.names.lookup x = some .local)
    (hit : ∀ Q' : Value → Shared → Prop, Q' (.str z t) s → wpAny (model PR w) A (eval iter env) Q' E s)
    (hh : A.handled = none) (hz : z.length ≤ 1000000)
    (htest : ∀ C c u (s₃ : Shared) m₃ (E' : Value → Shared → Prop), s.heap.objs.size < C → s₃.heap.Ns C m₃ → m₃ x = some (.str ⟨#[c]⟩ u) → (∀ b o, s.heap.get? b = some o → s₃.heap.get? b = some o) →
      wpAny (model PR w) A (forIn ifs true fun c r => if r = true then do let ok ← isTrue c (compEnvC scope cl C env) (eval c (compEnvC scope cl C env)); pure (ForInStep.yield ok) else pure (ForInStep.yield r))
        (fun ok s₄ => ok = p c ∧ Keeps s₃ s₄) E' s₃)
    (helt : ∀ C c u (s₃ : Shared) m₃ (E' : Value → Shared → Prop), s.heap.objs.size < C → s₃.heap.Ns C m₃ → m₃ x = some (.str ⟨#[c]⟩ u) → (∀ b o, s.heap.get? b = some o → s₃.heap.get? b = some o) →
      wpAny (model PR w) A (eval elt (compEnvC scope cl C env)) (fun y s₄ => (∃ u', y = .str (f c) u') ∧ Keeps s₃ s₄) E' s₃)
    (hQ : ∀ D h' tk (ys : List Value), s.heap.get? D = none → h'.PlainList D ys.toArray → StrsAre ys ((z.cps.toList.filter p).map f) →
      (∀ b o, s.heap.get? b = some o → h'.get? b = some o) → Q (.ref D) { s with heap := h', toks := tk })
    (hs : ∀ x, foldedSetIterable iter env x = pure x := by intro _; rfl) :
    wpAny (model PR w) A (eval (.ListComp elt [⟨.Name x px, iter, ifs, 0⟩] scope pos) env) Q E s := by
  refine wpAny_ListComp_free (pVal p) (fVal f) hclos hcell hkind hnames hx (hit _ (wpAny_pyIter_str fun o St W hst => ?_)) hs
  have keep : ∀ b o', s.heap.get? b = some o' → (s.heap.push o).get? b = some o' := fun b o' e => Heap.get?_push_of_some _ e
  have hk : ∀ {h' : Heap}, (∀ b o', b ∉ [s.heap.objs.size] → (s.heap.push o).get? b = some o' → h'.get? b = some o') → ∀ b o', s.heap.get? b = some o' → h'.get? b = some o' := fun hk b o' e =>
    hk b o' (fun q => Nat.ne_of_lt (Heap.lt_size e) (List.mem_singleton.mp q)) (keep b o' e)
  have hC : ∀ C, (s.heap.push o).objs.size ≤ C → s.heap.objs.size < C := fun C h => by rw [Heap.size_push] at h; exact h
  refine ⟨s.heap.objs.size, [s.heap.objs.size], [s.heap.objs.size], z.cps.size, SignAt z, St, rfl, W A hh, ?_, hst, ?_, ⟨?_, ?_⟩, ?_⟩
  · have : z.cps.size ≤ 1000000 := hz
    simp only [sizeLine]; omega
  · intro b hb
    rw [List.mem_singleton.mp hb]
    show s.heap.objs.size < (s.heap.push o).objs.size
    rw [Heap.size_push]; exact Nat.lt_succ_self _
  · rintro C i v s₃ m₃ E' hc ⟨c, u, _, rfl⟩ hn hm hkk _
    exact htest C c u s₃ m₃ E' (hC C hc) hn hm (hk hkk)
  · rintro C i v s₃ m₃ E' hc ⟨c, u, _, rfl⟩ _ hn hm hkk _
    exact wpAny_mono (helt C c u s₃ m₃ E' (hC C hc) hn hm (hk hkk)) (fun y s₄ h => ⟨let ⟨u', e⟩ := h.1; ⟨c, u, u', rfl, e⟩, h.2⟩) fun _ _ e => e
  · intro D h' tk ys vs hD _ hpl hlen hP hF hkk
    have hD' : s.heap.get? D = none := by
      cases e : s.heap.get? D with
      | none => rfl
      | some o' => have := keep D o' e; rw [hD] at this; cases this
    refine hQ D h' tk ys.toList hD' (by simpa using hpl) (paired_strs p f z.cps.toList vs ys.toList (by simpa using hlen) (fun j v hv => ?_) hF) (hk hkk)
    obtain ⟨c, u, hc, e⟩ := hP j v hv
    exact ⟨c, u, by simpa using hc, e⟩
end Mine
end

section
open PySem PySem.W PyProof.Rows PySem.Calls
namespace Mine
noncomputable def mark (k : Nat) : Str := ⟨#[48 + k]⟩

theorem item_eq {x : Str} {i : Int} (h0 : 0 ≤ i) (h2 : i < x.length) : Txt.item x i = ⟨#[x.cps.getD i.toNat 0]⟩ := by
  unfold Txt.item Txt.charAt
  rw [StrLaws.seqIndex_nonneg h0 h2]
  have hlt : i.toNat < x.cps.size := by have : x.length = x.cps.size := rfl; omega
  simp [Array.getD, hlt]
theorem itemS {prog : Program} {w : World} {A : Around} {E : Value → Shared → Prop} {s : Shared} {value slice : Expr} {x : Str} {t u : Tok} {i : Int} {Q : Value → Shared → Prop} (h0 : 0 ≤ i) (h2 : i < x.length) (hx : x.length ≤ 16777216)
    (h : ∀ t' k, Q (.str ⟨#[x.cps.getD i.toNat 0]⟩ t') { s with toks := k })
    (hs : subscripted slice false (.str x t) (.int i u) = operate [.str x t, .int i u] (getItem (.str x t) (.int i u)) := by with_unfolding_all rfl)
    (ht : ∀ r, letTemporaryGo value (.str x t) r = pure () := by intro _; with_unfolding_all rfl) :
    wpAny (model prog w) A (subscriptTail value slice (.str x t) (.int i u)) Q E s :=
  item_str (fitsSsize_of (N := 9223372036854775808) (by omega) (by omega) (Int.le_refl _)) (by omega) h2 (fun _ => by rw [item_eq h0 h2]; exact h _ _) hs ht
theorem len0123 : (Str.ofString "0123").length = 4 := by decide +kernel
theorem at0123 {k : Nat} (h : k ≤ 3) : (⟨#[(Str.ofString "0123").cps.getD k 0]⟩ : Str) = mark k := by
  have : ∀ k < 4, (⟨#[(Str.ofString "0123").cps.getD k 0]⟩ : Str) = mark k := by decide +kernel
  exact this k (by omega)
theorem item0123 {prog : Program} {w : World} {A : Around} {E : Value → Shared → Prop} {s : Shared} {value slice : Expr} {t u : Tok} {i : Int} {k : Nat} {Q : Value → Shared → Prop} (hk : k ≤ 3) (hi : i = k)
    (h : ∀ t' k', Q (.str (mark k) t') { s with toks := k' })
    (hs : subscripted slice false (.str (Str.ofString "0123") t) (.int i u) = operate [.str (Str.ofString "0123") t, .int i u] (getItem (.str (Str.ofString "0123") t) (.int i u)) := by with_unfolding_all rfl)
    (ht : ∀ r, letTemporaryGo value (.str (Str.ofString "0123") t) r = pure () := by intro _; with_unfolding_all rfl) :
    wpAny (model prog w) A (subscriptTail value slice (.str (Str.ofString "0123") t) (.int i u)) Q E s := by
  subst hi
  refine itemS (by omega) (by rw [len0123]; omega) (by rw [len0123]; omega) (fun t' k' => ?_) hs ht
  rw [Int.toNat_natCast, at0123 hk]
  exact h t' k'
theorem eqNil {prog : Program} {w : World} {A : Around} {E : Value → Shared → Prop} {s : Shared} {D D2 : Addr} {ys : List Value} {Q : Value → Shared → Prop} (hl : s.heap.IsList D ys.toArray) (hb : s.heap.IsList D2 #[]) (hu : A.units < cLine)
    (h : Q (.bool (decide (ys.length = 0))) s) : wpAny (model prog w) A (compareOp .Eq (.ref D) (.ref D2)) Q E s := by
  by_cases h0 : ys.length = 0
  · have : ys = [] := List.length_eq_zero_iff.mp h0
    subst this
    exact SeqAt.eq_listAt (e := fun _ => true) hl hb rfl hu (fun j h1 _ => by simp at h1) (by simpa using h)
  · rw [decide_eq_false h0] at h
    exact SeqAt.eq_list_lengthsAt hl hb (by simpa using h0) hu h
theorem strsAre_values : ∀ {ys : List Value} {xs : List Str}, StrsAre ys xs → ∃ l : List (Str × Tok), ys = strValues l ∧ l.map (·.1) = xs
  | _, _, .nil => ⟨[], rfl, rfl⟩
  | _, _, .cons y t r => by
    obtain ⟨l, e1, e2⟩ := strsAre_values r
    exact ⟨(y, t) :: l, by rw [e1]; rfl, by rw [List.map_cons, e2]⟩
theorem joinList {prog : Program} {w : World} {A : Around} {E : Value → Shared → Prop} {s : Shared} {sep : Str} {t : Tok} {D : Addr} {ys : List Value} {xs : List Str} {Q : Value → Shared → Prop} (hl : s.heap.IsList D ys.toArray) (hv : StrsAre ys xs)
    (hok : JoinOk sep xs = true) (h : ∀ t' k, Q (.str (Txt.join sep xs) t') { s with toks := k }) : wpAny (model prog w) A (call (.builtin "str.join") [.str sep t, .ref D]) Q E s := by
  obtain ⟨l, rfl, rfl⟩ := strsAre_values hv
  unfold JoinOk at hok
  rw [Bool.not_eq_true'] at hok
  exact call_meets F.slot_str_join (typeIs_str _ _ _) F.entry_str_join (F.args_str_join_2 _ _) (meets_str_join_list sep t D l hok) ⟨hl, post_join l ⟨joinFit_length hok, h⟩⟩
theorem join_len_le' (sep : Str) (l : List Str) : (Txt.join sep l).length ≤ (l.map (·.length)).sum + l.length * sep.length := by
  show (Builtin.Str.glued sep l).length ≤ _
  rw [StrLaws.glued_eq_join]; exact StrLaws.join_length_le sep l
end Mine
end

section
open PySem PySem.W PyProof.Rows PySem.Calls
namespace Mine

theorem enterC {w : World} {A : Around} {s : Shared} {K : Frag}
    {R : Result → Shared → Prop} {name qual : Str} {params : Arguments} {body : List Stmt} {scope : Scope} {dV kV doc pm cdv ct oc : Value} {an od : Option Addr} {osl : Array (Option Value)} {f : Addr} {args : Args} {binds : List (Str × Value)}
    (X : K.In s.heap) (hlim : s.heap.NoLimit)
    (ho : K.lookup f = some ⟨oc, od, .func (fnOf name qual params body scope dV kV doc pm an cdv ct), osl⟩) (hcd : codeIn K cdv qual = true) (hroom : A.depth < recursionLimit)
    (hbind : BindsTo s (fnOf name qual params body scope dV kV doc pm an cdv ct) args binds) (hkind : (binds.all fun y => scope.names.lookup y.1 == some .local || scope.names.lookup y.1 == some .cell) = true)
    (hnd : ((cellsFrom 0 scope.names []).map (·.1)).Nodup)
    (h : ∀ L h₁ tk cells, Fr s.heap L h₁ (bindL (envOfC qual scope L f cdv).kindOf binds fun _ => none) → News s.heap L h₁ cells →
      CellsAre (bindC (envOfC qual scope L f cdv).kindOf binds fun _ => none) (cellsFrom (L + 1) scope.names []) cells → K.In s.heap →
      wpAny (model PR w) (A.deeper (envOfC qual scope L f cdv)) (execs body (envOfC qual scope L f cdv))
        (fun fl s' => R (.ok (.ret (match fl with | .ret v => v | _ => .none))) s')
        (fun _ _ => False)
        { s with heap := h₁, toks := tk })
    (hco : scope.isCoroutine = false := by rfl) (hgen : scope.isGenerator = false := by rfl) (hk : scope.kind = .function := by rfl) : codeAny (model PR w) A (.call (.ref f) args) R s := by
  refine codeAny_call_function hroom (X _ _ ho) rfl hco hgen rfl (codeRec_of X hcd) (hbind _ _ _ _ ?_)
  refine wpAny_newFunctionEnv_cells hk (kindsX hkind _) fun env' he s' x => ?_
  subst he
  refine ⟨hlim.keeps x.toInCall.keep, codeAny_func ?_⟩
  obtain ⟨h₁, tk, rfl, _⟩ := x.done
  have hk₁ := x.toInCall.keep
  obtain ⟨cells, NC, Y⟩ := Cl.news (h₀ := s.heap) (Nat.le_refl _) fun n c hm => ⟨x.cell n c (lookup_of_mem_nodup (cellsFrom_names scope.names 0 (s.heap.objs.size + 1) [] [] rfl ▸ hnd) hm), x.above n c hm⟩
  exact wpAny_mono (h s.heap.objs.size h₁ tk cells ⟨x.toInCall.ns, hk₁, Nat.le_refl _⟩ NC Y X) (fun _ _ y => y) (fun _ _ y => y.elim)

theorem nameL {M : Model} {A : Around} {E : Value → Shared → Prop} {s : Shared} {env : Env} {name : Str} {pos : Pos} {m : Str → Option Value} {v : Value} {Q : Value → Shared → Prop}
    (hk : env.scope.kind = .function) (hl : env.kindOf name = some .local) (hd : (name == ("__debug__" : Str)) = false) (hn : s.heap.Ns env.locals m) (hv : m name = some v) (h : Q v s) : wpAny M A (eval (.Name name pos) env) Q E s :=
  wpAny_Name (wpAny_loadName_local hk hl hn hv h) hd
theorem nameC {M : Model} {A : Around} {E : Value → Shared → Prop} {s : Shared} {env : Env} {name : Str} {pos : Pos} {c : Addr} {v : Value} {Q : Value → Shared → Prop}
    (hk : env.scope.kind = .function) (hl : env.kindOf name = some .cell) (hd : (name == ("__debug__" : Str)) = false) (hc : env.cells.lookup name = some c) (hv : s.heap.IsCell c (some v)) (h : Q v s) : wpAny M A (eval (.Name name pos) env) Q E s :=
  wpAny_Name (wpAny_loadName_cell hk hl hc hv h) hd

noncomputable abbrev SAFE : Str := Str.ofString "ABCDEFGHIJKLMNOPQRSTUVWXYZabcdefghijklmnopqrstuvwxyz0123456789_@%+=:,./-"

theorem safe_mem (c : Nat) : decide (c ∈ SAFE.cps.toList) = safeC c := by
  by_cases h : c < 128
  · have : ∀ c < 128, decide (c ∈ SAFE.cps.toList) = safeC c := by decide +kernel
    exact this c h
  · have h1 : decide (c ∈ SAFE.cps.toList) = false := by
      have : ∀ k ∈ SAFE.cps.toList, k < 128 := by decide +kernel
      exact decide_eq_false fun hm => h (this c hm)
    rw [h1]
    unfold safeC Sre.isWord Sre.isDigit
    simp only [List.contains_eq_mem, List.mem_cons, List.not_mem_nil, or_false]
    have : ∀ k, k < 128 → c ≠ k := fun k hk e => h (e ▸ hk)
    simp [this]
    omega
theorem one_cps (c : Nat) : (⟨#[c]⟩ : Str).cps = #[c] := rfl

section
variable {w : World} {A : Around} {E : Value → Shared → Prop} {s : Shared} {env : Env}
theorem testSafe {p1 p2 p3 : Pos} {m : Str → Option Value} {c c₀ : Nat} {u t₀ : Tok} (hk : env.scope.kind = .function) (h1 : env.kindOf (Str.ofString "sign") = some .local) (h2 : env.kindOf (Str.ofString "safe") = some .cell)
    (hc : env.cells.lookup (Str.ofString "safe") = some c₀) (hn : s.heap.Ns env.locals m) (hm : m (Str.ofString "sign") = some (.str ⟨#[c]⟩ u)) (hcell : s.heap.IsCell c₀ (some (.str SAFE t₀))) :
    wpAny (model PR w) A (forIn [Expr.Compare (.Name (Str.ofString "sign") p1) [.NotIn] [.Name (Str.ofString "safe") p2] p3] true fun c r => if r = true then do let ok ← isTrue c env (eval c env); pure (ForInStep.yield ok) else pure (ForInStep.yield r))
        (fun ok s₄ => ok = (!safeC c) ∧ Keeps s s₄) E s := by
  rw [List.forIn_cons]
  refine wpAny_bind ?_
  simp only [if_true]
  refine wpAny_bind (wpAny_isTrue_Compare1 (nameL hk h1 (by decide) hn hm (nameC hk h2 (by decide) hc hcell (PyProof.Rows.notIn_str ?_))) rfl)
  refine wpAny_truthy_bool (wpAny_pure (wpAny_pure ⟨?_, _, _, rfl, fun _ _ e => e⟩))
  rw [StrLaws.found_one, safe_mem]
theorem eltSign {p1 : Pos} {m : Str → Option Value} {c : Nat} {u : Tok} (hk : env.scope.kind = .function) (h1 : env.kindOf (Str.ofString "sign") = some .local)
    (hn : s.heap.Ns env.locals m) (hm : m (Str.ofString "sign") = some (.str ⟨#[c]⟩ u)) :
    wpAny (model PR w) A (eval (.Name (Str.ofString "sign") p1) env) (fun y s₄ => (∃ u', y = .str ((fun c => ⟨#[c]⟩) c) u') ∧ Keeps s s₄) E s :=
  nameL hk h1 (by decide) hn hm ⟨⟨u, rfl⟩, _, _, rfl, fun _ _ e => e⟩

local macro_rules | `(tactic| walk_at "eval Name") => `(tactic| ((with_reducible show wpAny _ _ (eval (Expr.Name (Str.ofString "sign") _) _) _ _ _); refine nameL (by assumption) (by assumption) (by decide) (by assumption) (by assumption) ?_))
local macro_rules | `(tactic| walk_at "eval Name") => `(tactic| ((with_reducible show wpAny _ _ (eval (Expr.Name (Str.ofString "depth") _) _) _ _ _); refine nameC (by assumption) (by assumption) (by decide) (by assumption) (by assumption) ?_))

theorem eltMark {p1 p2 p3 p4 p5 p6 p7 p8 p9 : Pos} {m : Str → Option Value} {c c₀ d : Nat} {u t₀ : Tok} (hd2 : d ≤ 2) (hk : env.scope.kind = .function) (h1 : env.kindOf (Str.ofString "sign") = some .local) (h2 : env.kindOf (Str.ofString "depth") = some .cell)
    (hc : env.cells.lookup (Str.ofString "depth") = some c₀) (hn : s.heap.Ns env.locals m) (hm : m (Str.ofString "sign") = some (.str ⟨#[c]⟩ u)) (hcell : s.heap.IsCell c₀ (some (.int d t₀)))
    {Q : Value → Shared → Prop} (hQ : ∀ r u' k, r = (fun c => if c = 39 then mark (d + 1) else ⟨#[c]⟩) c → Q (.str r u') { s with toks := k }) :
    wpAny (model PR w) A (eval (.IfExp (.Compare (.Name (Str.ofString "sign") p1) [.Eq] [.Constant (.str (Str.ofString "'")) 0 p2] p3) (.Subscript (.Constant (.str (Str.ofString "0123")) 0 p4) (.BinOp (.Name (Str.ofString "depth") p5) .Add (.Constant (.int 1) 0 p6) p7) p8) (.Name (Str.ofString "sign") p9)  p3) env) Q E s := by
  walk
  · refine item0123 (k := d + 1) (by omega) (by push_cast; rfl) fun t' k' => hQ _ _ _ ?_
    have hc : c = 39 := by
      rename_i hq
      have h2 := eq_of_beq hq
      have h3 : (Str.ofString "'") = ⟨#[39]⟩ := by decide +kernel
      rw [h3] at h2
      injection h2 with h2
      simpa using h2
    simp [hc]
  · rename_i hq
    refine hQ _ _ _ ?_
    have hc : ¬ c = 39 := fun e => by subst e; exact absurd hq (by decide +kernel)
    simp [hc]
end
end Mine
end

section
open PySem PySem.W PyProof.Rows PySem.Calls
namespace Mine

noncomputable def bareS (x : Str) : Bool := !decide (x.length = 0) && x.cps.toList.all safeC
noncomputable def innerS (x : Str) (d : Nat) : Str := Txt.join (Str.ofString "") (x.cps.toList.map fun c => if c = 39 then mark (d + 1) else ⟨#[c]⟩)
noncomputable def wrapS (d : Nat) (b : Bool) (i : Str) : Str := if b = true then i else mark d ++ i ++ mark d

theorem emp : Str.ofString "" = ⟨#[]⟩ := by decide +kernel
theorem ne_emp (x : Str) : (x != Str.ofString "") = !decide (x.length = 0) := by
  rw [emp]
  obtain ⟨⟨l⟩⟩ := x
  cases l with
  | nil => rfl
  | cons a r => simp [Str.length, bne, BEq.beq, decide_eq_false]
theorem bare_no {x : Str} (h : (x != Str.ofString "") = false) : (x != Str.ofString "") = bareS x := by
  rw [h]; rw [ne_emp] at h; unfold bareS; rw [h]; rfl
theorem bare_yes {x : Str} {ys : List Value} (h : (x != Str.ofString "") = true) (hs : StrsAre ys ((x.cps.toList.filter fun c => !safeC c).map fun c => ⟨#[c]⟩)) : decide (ys.length = 0) = bareS x := by
  rw [ne_emp] at h
  unfold bareS
  rw [h, hs.length, List.length_map, Bool.true_and]
  rw [Bool.eq_iff_iff, decide_eq_true_eq, List.length_eq_zero_iff, List.filter_eq_nil_iff, List.all_eq_true]
  constructor
  · intro h c hc
    have := h c hc
    simpa using this
  · intro h c hc
    simp [h c hc]

theorem inner_ok {x : Str} {d : Nat} (hx : x.length ≤ 1000000) : JoinOk (Str.ofString "") ((x.cps.toList.filter fun _ => true).map fun c => if c = 39 then mark (d + 1) else ⟨#[c]⟩) = true ∧
    Txt.join (Str.ofString "") ((x.cps.toList.filter fun _ => true).map fun c => if c = 39 then mark (d + 1) else ⟨#[c]⟩) = innerS x d ∧ (innerS x d).length ≤ 1000000 := by
  have e : x.cps.toList.filter (fun _ => true) = x.cps.toList := by simp
  have hs : ∀ l : List Nat, ((l.map fun c => if c = 39 then mark (d + 1) else ⟨#[c]⟩).map (·.length)).sum = l.length := by
    intro l
    induction l with
    | nil => rfl
    | cons c l ih =>
      have : (if c = 39 then mark (d + 1) else (⟨#[c]⟩ : Str)).length = 1 := by split <;> rfl
      simp only [List.map_cons, List.sum_cons, List.length_cons, ih, this]; omega
  have h0 : (Str.ofString "").length = 0 := by decide +kernel
  have hl : x.cps.toList.length = x.length := by simp [Str.length]
  rw [e]
  refine ⟨joinOk_le (by rw [hs, h0, hl]; omega), rfl, ?_⟩
  have := join_len_le' (Str.ofString "") (x.cps.toList.map fun c => if c = 39 then mark (d + 1) else ⟨#[c]⟩)
  rw [hs, h0, hl] at this
  unfold innerS; omega

local macro_rules | `(tactic| walk_at "compareOp Eq ref ref") => `(tactic| (refine eqNil (News.isList (by assumption) (by k_mem)) (News.isList (by assumption) (by k_mem)) (by assumption) ?_; (try rw [bare_yes (by assumption) (by assumption)])))
local macro_rules | `(tactic| walk_at "call builtin:str.join") => `(tactic| (refine joinList (News.isList (by assumption) (by k_mem)) (by assumption) (by assumption) ?_; intro tJ kJ; (try rw [(by assumption : Txt.join _ _ = innerS _ _)])))
local macro_rules | `(tactic| walk_at "binaryOp Add str str") => `(tactic| (refine add_str ?_ ?hsz; (case hsz => (simp only [Str.length_append, sizeLine_eq]; omega)); intro tB kB))

theorem wrap_t {d : Nat} {b : Bool} {i : Str} (h : b = true) : wrapS d b i = i := by rw [wrapS, if_pos h]
theorem wrap_f {d : Nat} {b : Bool} {i : Str} (h : b = false) : wrapS d b i = mark d ++ i ++ mark d := by rw [wrapS, if_neg (by rw [h]; exact Bool.false_ne_true)]
theorem newsAdd {h₀ h h2 : Heap} {L D : Addr} {m : Str → Option Value} {news : List (Addr × Obj)} {o : Obj} (F : Fr h₀ L h m) (N : News h₀ L h2 news) (hD : h.get? D = none) (oD : h2.get? D = some o) : News h₀ L h2 ((D, o) :: news) :=
  List.forall_mem_cons.mpr ⟨⟨oD, (fun e => by
        obtain ⟨oL, _, _, hoL, _⟩ := F.ns
        rw [← e] at hoL
        exact absurd (hoL.symm.trans hD) (by simp)), (by
        cases e : h₀.get? D with
        | none => rfl
        | some o => have := F.keep D o e; exact absurd (this.symm.trans hD) (by simp))⟩, N⟩

local macro_rules | `(tactic| walk_at "subscriptTail") => `(tactic| ((with_reducible show wpAny _ _ (subscriptTail _ _ (Value.str (Str.ofString "0123") _) (Value.int _ _)) _ _ _); (refine item0123 (k := _) ?hk rfl ?_; (case hk => omega)); intro tI kI))

set_option maxRecDepth 100000 in
set_option maxHeartbeats 4000000 in
theorem pic_leaf {w : World} {mg mb : Str → Option Value} (x : Str) (t u : Tok) (d : Nat) {A : Around} {s : Shared} {Q E : Value → Shared → Prop}
   (X : (hd.heap_39 w.params).In s.heap) (T : TopRead hd.view_39 LO mg mb s.heap) (hh : A.handled = none) (hdp : A.depth < recursionLimit) (hu : A.units + 10 < cLine) (hx : x.length ≤ 1000000) (hd2 : d ≤ 2)
   (hQ : ∀ a h' tk r tk' n, r = wrapS d (bareS x) (innerS x d) → s.heap.get? a = none → h'.get? a = some (tupObj [.str r tk', .bool (bareS x)] n) → (∀ b o, s.heap.get? b = some o → h'.get? b = some o) → Q (.ref a) { s with heap := h', toks := tk }) :
   wpAny (model Challenge.rw_mj0033_01.row.prog w) A (call (.ref 82) [.str x t, .int d u]) Q E s := by
  revert X; k_fill; intro X
  refine wpAny_call ?_
  refine' enterC (binds := [(Str.ofString "child", .str x t), (Str.ofString "depth", .int d u)]) X T.nolimit ?k6 ?k7 (by omega) ?k9 ?kB ?kD ?_ ?c2 ?c3 ?c4
  (case k6 => k_is)
  (case k7 => k_is)
  (case k9 => exact BindsTo.of_eq rfl)
  (case kB => exact rfl)
  (case kD => decide +kernel)
  (case c2 => exact rfl)
  (case c3 => exact rfl)
  (case c4 => exact rfl)
  intro L h₁ tk cells F N Y X
  k_cells Y
  (try simp only [List.cons_append, List.nil_append] at N)
  (try dsimp only)
  (try k_fold)
  repeat' (first
    | ((fail_if_success (with_reducible show wpAny _ _ (eval (Expr.ListComp _ _ _ _) _) _ _ _)); (first | (k_unfold; (try dsimp only)) | walk1 | (dsimp only; walk1)))
    | fail "no step")
  · rename Fr _ _ _ _ => F1
    rename News _ _ _ _ => N1
    rename (Obj.data _ = Data.cell (some (Value.str _ _))) => dS
    rename ((x != _) = true) => hne
    refine compStr (z := x) (t := t) (cl := [(Str.ofString "safe", L + 1 + 1)]) (fun c => !safeC c) (fun c => ⟨#[c]⟩) rfl (by decide) rfl (by decide) rfl (fun Q' hq => nameL rfl rfl (by decide) F1.ns rfl hq) hh hx ?_ ?_ ?_
    · intro C c u' s₃ m₃ E' hC hn hm hk
      exact testSafe rfl rfl rfl rfl hn hm ⟨_, hk _ _ (N1.get (.head _)), dS⟩
    · intro C c u' s₃ m₃ E' hC hn hm hk
      exact eltSign rfl rfl hn hm
    · intro D h2 tk2 ys hD hpl hstr hk
      have F2 := Fr.more F1 hk
      obtain ⟨nD, oD⟩ := hpl
      have N2 : News s.heap L h2 _ := News.more N1 hk
      have N3 : News s.heap L h2 ((D, { cls := .type "list", data := .seq ys.toArray nD }) :: _) := newsAdd F1 N2 hD oD
      clear N2
      have hcl : (A.deeper (envOfC (Str.ofString "") default L 82 (Value.ref 81))).units < cLine := by show A.units + 3 < cLine; omega
      repeat' (first
        | ((fail_if_success (with_reducible show wpAny _ _ (eval (Expr.ListComp _ _ _ _) _) _ _ _)); (first | (k_unfold; (try dsimp only)) | walk1 | (dsimp only; walk1)))
        | fail "no step")
      rename Fr _ _ _ _ => F1
      rename News _ _ _ _ => N1
      have N4 : News s.heap L _ [(L + 1 + 1, _), (L + 1, _)] := fun p hp => N1 p (by
        rcases List.mem_cons.mp hp with rfl | hp
        · k_mem
        · rcases List.mem_cons.mp hp with rfl | hp
          · k_mem
          · cases hp)
      clear N1
      have N1 := N4
      clear N4
      refine compStr (z := x) (t := t) (cl := [(Str.ofString "depth", L + 1)]) (fun _ => true) (fun c => if c = 39 then mark (d + 1) else ⟨#[c]⟩) rfl (by decide) rfl (by decide) rfl (fun Q' hq => nameL rfl rfl (by decide) F1.ns rfl hq) hh hx ?_ ?_ ?_
      · intro C c u' s₃ m₃ E' hC hn hm hk
        exact wpAny_pure ⟨rfl, _, _, rfl, fun _ _ e => e⟩
      · intro C c u' s₃ m₃ E' hC hn hm hk
        exact eltMark (t₀ := u) hd2 rfl rfl rfl rfl hn hm ⟨_, hk _ _ (N1.get (.tail _ (.head _))), by assumption⟩ fun r u' k hr => ⟨⟨u', by rw [hr]⟩, _, _, rfl, fun _ _ e => e⟩
      · intro D h2 tk2 ys hD hpl hstr hk
        have F2 := Fr.more F1 hk
        obtain ⟨nD, oD⟩ := hpl
        have N2 : News s.heap L h2 _ := News.more N1 hk
        have N3 : News s.heap L h2 ((D, { cls := .type "list", data := .seq ys.toArray nD }) :: _) := newsAdd F1 N2 hD oD
        clear N2
        obtain ⟨hJ1, hJ2, hJ3⟩ := inner_ok (d := d) hx
        have hmk : (mark d).length ≤ 1 := Nat.le_refl _
        k_steps
        · rename News _ _ _ _ => NZ
          rename (bareS x = true) => hbb
          exact hQ _ _ _ _ _ _ (wrap_t hbb).symm (NZ.fresh (List.Mem.head _)) (NZ.get (List.Mem.head _)) (Fr.keep (by assumption))
        · rename News _ _ _ _ => NZ
          rename (bareS x = false) => hbb
          exact hQ _ _ _ _ _ _ (wrap_f hbb).symm (NZ.fresh (List.Mem.head _)) (NZ.get (List.Mem.head _)) (Fr.keep (by assumption))
  · rename Fr _ _ _ _ => F1
    rename News _ _ _ _ => N1
    rename ((x != _) = false) => hne
    rw [bare_no hne] at F1
    refine compStr (z := x) (t := t) (cl := [(Str.ofString "depth", L + 1)]) (fun _ => true) (fun c => if c = 39 then mark (d + 1) else ⟨#[c]⟩) rfl (by decide) rfl (by decide) rfl (fun Q' hq => nameL rfl rfl (by decide) F1.ns rfl hq) hh hx ?_ ?_ ?_
    · intro C c u' s₃ m₃ E' hC hn hm hk
      exact wpAny_pure ⟨rfl, _, _, rfl, fun _ _ e => e⟩
    · intro C c u' s₃ m₃ E' hC hn hm hk
      exact eltMark (t₀ := u) hd2 rfl rfl rfl rfl hn hm ⟨_, hk _ _ (N1.get (.tail _ (.head _))), by assumption⟩ fun r u' k hr => ⟨⟨u', by rw [hr]⟩, _, _, rfl, fun _ _ e => e⟩
    · intro D h2 tk2 ys hD hpl hstr hk
      have F2 := Fr.more F1 hk
      obtain ⟨nD, oD⟩ := hpl
      have N2 : News s.heap L h2 _ := News.more N1 hk
      have N3 : News s.heap L h2 ((D, { cls := .type "list", data := .seq ys.toArray nD }) :: _) := newsAdd F1 N2 hD oD
      clear N2
      obtain ⟨hJ1, hJ2, hJ3⟩ := inner_ok (d := d) hx
      have hmk : (mark d).length ≤ 1 := Nat.le_refl _
      k_steps
      · rename News _ _ _ _ => NZ
        rename (bareS x = true) => hbb
        exact hQ _ _ _ _ _ _ (wrap_t hbb).symm (NZ.fresh (List.Mem.head _)) (NZ.get (List.Mem.head _)) (Fr.keep (by assumption))
      · rename News _ _ _ _ => NZ
        rename (bareS x = false) => hbb
        exact hQ _ _ _ _ _ _ (wrap_f hbb).symm (NZ.fresh (List.Mem.head _)) (NZ.get (List.Mem.head _)) (Fr.keep (by assumption))
end Mine
end

section
open PySem PySem.W PyProof.Rows PySem.Calls
namespace Mine

mutual
noncomputable def picS : Tr → Nat → Str × Bool
  | .leaf x, d => (wrapS d (bareS x) (innerS x d), bareS x)
  | .node ts, d => (wrapS d (onlyS (picsS ts (d + 1))) (Txt.join (Str.ofString " ") ((picsS ts (d + 1)).map (·.1))), onlyS (picsS ts (d + 1)))
noncomputable def picsS : List Tr → Nat → List (Str × Bool)
  | [], _ => []
  | t :: ts, d => picS t d :: picsS ts d
noncomputable def onlyS : List (Str × Bool) → Bool
  | [p] => p.2
  | _ => false
end
theorem picsS_eq (d : Nat) : ∀ ts : List Tr, picsS ts d = ts.map fun t => picS t d
  | [] => rfl
  | t :: ts => by rw [picsS, picsS_eq d ts]; rfl
theorem wrap_len {d : Nat} {b : Bool} {i : Str} : (wrapS d b i).length ≤ i.length + 2 := by
  unfold wrapS
  split
  · omega
  · rw [Str.length_append, Str.length_append]
    have : (mark d).length = 1 := rfl
    omega
theorem innerS_len (x : Str) (d : Nat) : (innerS x d).length ≤ x.length := by
  have hs : ∀ l : List Nat, ((l.map fun c => if c = 39 then mark (d + 1) else ⟨#[c]⟩).map (·.length)).sum = l.length := by
    intro l
    induction l with
    | nil => rfl
    | cons c l ih =>
      have : (if c = 39 then mark (d + 1) else (⟨#[c]⟩ : Str)).length = 1 := by split <;> rfl
      simp only [List.map_cons, List.sum_cons, List.length_cons, ih, this]; omega
  have h0 : (Str.ofString "").length = 0 := by decide +kernel
  have hl : x.cps.toList.length = x.length := by simp [Str.length]
  have := join_len_le' (Str.ofString "") (x.cps.toList.map fun c => if c = 39 then mark (d + 1) else ⟨#[c]⟩)
  rw [hs, h0, hl] at this
  unfold innerS; omega
theorem sum_pic_le (d : Nat) : ∀ ts : List Tr, (∀ t ∈ ts, (picS t d).1.length ≤ 6 * B t + 7) → (((picsS ts d).map (·.1)).map (·.length)).sum + ts.length ≤ Bs ts
  | [], _ => by simp [picsS, Bs]
  | t :: ts, h => by
    have h1 := sum_pic_le d ts fun u hu => h u (.tail _ hu)
    have h3 := h t (.head _)
    simp only [picsS, List.map_cons, List.sum_cons, List.length_cons, Bs]
    omega
theorem picS_len : ∀ (t : Tr) (d : Nat), (picS t d).1.length ≤ 6 * B t + 7 := Tr.ind (fun x d => by
    have := @wrap_len d (bareS x) (innerS x d)
    have := innerS_len x d
    simp only [picS, B]; omega) fun ts ih d => by
  have h1 := sum_pic_le (d + 1) ts fun t ht => ih t ht (d + 1)
  have h2 := join_len_le ((picsS ts (d + 1)).map (·.1))
  have h3 := @wrap_len d (onlyS (picsS ts (d + 1))) (Txt.join (Str.ofString " ") ((picsS ts (d + 1)).map (·.1)))
  simp only [picS, B]
  simp only [List.length_map, picsS_eq] at h1 h2 h3 ⊢
  omega
theorem joinOk_pics (ts : List Tr) (d : Nat) (h : Bs ts ≤ 1000000) : JoinOk (Str.ofString " ") ((picsS ts d).map (·.1)) = true := by
  have h1 := sum_pic_le d ts fun t _ => picS_len t d
  refine joinOk_le ?_
  rw [sp1]
  simp only [List.length_map, picsS_eq] at h1 ⊢
  omega
theorem joinPics_len (ts : List Tr) (d : Nat) : (Txt.join (Str.ofString " ") ((picsS ts d).map (·.1))).length ≤ Bs ts := by
  have h1 := sum_pic_le d ts fun t _ => picS_len t d
  have h2 := join_len_le ((picsS ts d).map (·.1))
  simp only [List.length_map, picsS_eq] at h1 h2 ⊢
  omega

section
variable {w : World} {A : Around} {E : Value → Shared → Prop} {s : Shared} {env : Env}
theorem eltPic {mg mb : Str → Option Value} {p1 p2 p3 p4 p5 p6 : Pos} {m : Str → Option Value} {v : Value} {c₀ d : Nat} {t₀ : Tok} (hk : env.scope.kind = .function) (h1 : env.kindOf (Str.ofString "part") = some .local) (h2 : env.kindOf (Str.ofString "depth") = some .cell)
    (h3 : env.kindOf (Str.ofString "_law_picture") = some .globalImplicit) (hg : env.globals = mainGlobals)
    (hc : env.cells.lookup (Str.ofString "depth") = some c₀) (hn : s.heap.Ns env.locals m) (hm : m (Str.ofString "part") = some v) (hcell : s.heap.IsCell c₀ (some (.int d t₀)))
    (X : (hd.heap_39 w.params).In s.heap) (T : TopRead hd.view_39 LO mg mb s.heap)
    {Q : Value → Shared → Prop} (hQ : ∀ u' k, wpAny (model PR w) A (call (.ref 82) [v, .int ((d + 1 : Nat) : Int) u']) Q E { s with toks := k }) :
    wpAny (model PR w) A (eval (.Call (.Name (Str.ofString "_law_picture") p1) [.Name (Str.ofString "part") p2, .BinOp (.Name (Str.ofString "depth") p3) .Add (.Constant (.int 1) 0 p4) p5] [] p6) env) Q E s := by
  have hns' : s.heap.Ns env.globals mg := by rw [hg]; exact T.g
  refine Call_ (Calls.Name_function_global hk h3 (Calls.loadGlobal_global hns' (mg_of X T.g rfl) ?_) (by decide))
  refine callWith_K X rfl (Calls.spliced_cons ?_)
  refine nameL hk h1 (by decide) hn hm (Calls.spliced_cons ?_)
  show wpAny _ _ (eval (.BinOp (.Name (Str.ofString "depth") p3) .Add (.Constant (.int 1) 0 p4) p5) env) _ _ _
  refine wpAny_BinOp (nameC hk h2 (by decide) hc hcell ?_)
  refine wpAny_Constant_int ?_
  refine add_int ?_
  refine Calls.spliced_nil ⟨X, ?_⟩
  exact hQ _ _
theorem eltFst {p1 p2 p3 : Pos} {m : Str → Option Value} {a n : Nat} {x : Str} {tk : Tok} {b : Value} (hk : env.scope.kind = .function) (h1 : env.kindOf (Str.ofString "part") = some .local)
    (hn : s.heap.Ns env.locals m) (hm : m (Str.ofString "part") = some (.ref a)) (ho : s.heap.get? a = some (tupObj [.str x tk, b] n))
    {Q : Value → Shared → Prop} (hQ : ∀ k, Q (.str x tk) { s with toks := k }) :
    wpAny (model PR w) A (eval (.Subscript (.Name (Str.ofString "part") p1) (.Constant (.int 0) 0 p2) p3) env) Q E s := by
  refine Subscript_ (nameL hk h1 (by decide) hn hm (wpAny_Constant_int ?_))
  exact item_tupleT (j := 0) ⟨_, ho, rfl, n, rfl⟩ (by decide) (by decide) rfl rfl (hQ _)
end
end Mine
end

section
open PySem PySem.W PyProof.Rows PySem.Calls
namespace Mine

noncomputable def PicTells (w : World) (mg mb : Str → Option Value) (t : Tr) : Prop :=
  ∀ {A : Around} {s : Shared} {v : Value} {X₀ : List Addr} {d : Nat} {u : Tok} {Q E : Value → Shared → Prop}, (hd.heap_39 w.params).In s.heap → TopRead hd.view_39 LO mg mb s.heap → At s.heap X₀ v t → B t ≤ 100000 → A.handled = none →
    A.depth + dpt t < recursionLimit → A.units + 3 * dpt t + 10 < cLine → d + dpt t ≤ 2 →
    (∀ a h' tk r tk' n, r = (picS t d).1 → s.heap.get? a = none → h'.get? a = some (tupObj [.str r tk', .bool (picS t d).2] n) → (∀ b o, s.heap.get? b = some o → h'.get? b = some o) → Q (.ref a) { s with heap := h', toks := tk }) →
    wpAny (model Challenge.rw_mj0033_01.row.prog w) A (call (.ref 82) [v, .int d u]) Q E s

theorem pics_leaf {w : World} {mg mb : Str → Option Value} (x : Str) : PicTells w mg mb (.leaf x) := by
  intro A s v X₀ d u Q E X T hat hB hh hdp hu hd2 hQ
  cases hat with
  | leaf x t => exact pic_leaf x t u d X T hh hdp (by simp only [dpt] at hu; omega) (by simp only [B] at hB; omega) hd2 hQ

local macro_rules | `(tactic| walk_at "call builtin:str.join") => `(tactic| (refine joinList (News.isList (by assumption) (by k_mem)) (by assumption) (by assumption) ?_; intro tJ kJ))
local macro_rules | `(tactic| walk_at "binaryOp Add str str") => `(tactic| (refine add_str ?_ ?hsz; (case hsz => (simp only [Str.length_append, sizeLine_eq]; omega)); intro tB kB))
local macro_rules | `(tactic| walk_at "subscriptTail") => `(tactic| ((with_reducible show wpAny _ _ (subscriptTail _ _ (Value.str (Str.ofString "0123") _) (Value.int _ _)) _ _ _); (refine item0123 (k := _) ?hk rfl ?_; (case hk => omega)); intro tI kI))

theorem lenOf {prog : Program} {w : World} {A : Around} {E : Value → Shared → Prop} {s : Shared} {D : Addr} {vs : List Value} {Q : Value → Shared → Prop} (hl : s.heap.IsList D vs.toArray) (hz : vs.length ≤ 16777216)
    (h : ∀ t k, Q (.int vs.length t) { s with toks := k }) : wpAny (model prog w) A (call (.builtin "len") [.ref D]) Q E s := by
  refine len_list hl ?_ ?_
  · rw [List.size_toArray]; omega
  · rw [List.size_toArray]; exact h _ _
local macro_rules | `(tactic| walk_at "call builtin:len") => `(tactic| (refine lenOf (News.isList (by assumption) (by k_mem)) ?hz ?_; (case hz => (simp only [List.length_cons, List.length_nil] at *; omega)); intro tL kL))
theorem newsApp {h₀ h : Heap} {L : Addr} {n1 n2 : List (Addr × Obj)} (a : News h₀ L h n1) (b : News h₀ L h n2) : News h₀ L h (n1 ++ n2) := fun p hp => (List.mem_append.mp hp).elim (a p) (b p)
theorem strsAre_pics (d : Nat) : ∀ (ys : List Value) (ts : List Tr), ys.length = ts.length → (∀ (i : Nat) (y : Value), ys[i]? = some y → ∃ t u, ts[i]? = some t ∧ y = Value.str (picS t d).1 u) → StrsAre ys ((picsS ts d).map (·.1))
  | [], [], _, _ => .nil
  | [], _ :: _, h, _ => by simp at h
  | _ :: _, [], h, _ => by simp at h
  | y :: ys, t :: ts, h, hF => by
    obtain ⟨t', u, e, rfl⟩ := hF 0 y rfl
    simp at e; subst e
    exact .cons _ u (strsAre_pics d ys ts (by simpa using h) fun i y hy => by simpa using hF (i + 1) y (by simpa using hy))
set_option maxRecDepth 100000 in
set_option maxHeartbeats 4000000 in
theorem pics_node {w : World} {mg mb : Str → Option Value} (ts : List Tr) (ih : ∀ t ∈ ts, PicTells w mg mb t) : PicTells w mg mb (.node ts) := by
  intro A s v X₀ d u Q E X T hat hB hh hdp hu hd2 hQ
  cases hat with
  | @node a n vs ts ha ho hall =>
  have hl : s.heap.IsList a vs.toArray := ⟨_, ho, rfl, n, rfl⟩
  revert X; k_fill; intro X
  refine wpAny_call ?_
  refine' enterC (binds := [(Str.ofString "child", .ref a), (Str.ofString "depth", .int d u)]) X T.nolimit ?k6 ?k7 (by omega) ?k9 ?kB ?kD ?_ ?c2 ?c3 ?c4
  (case k6 => k_is)
  (case k7 => k_is)
  (case k9 => exact BindsTo.of_eq rfl)
  (case kB => exact rfl)
  (case kD => decide +kernel)
  (case c2 => exact rfl)
  (case c3 => exact rfl)
  (case c4 => exact rfl)
  intro L h₁ tk cells F N Y X
  k_cells Y
  (try simp only [List.cons_append, List.nil_append] at N)
  (try dsimp only)
  (try k_fold)
  repeat' (first
    | ((fail_if_success (with_reducible show wpAny _ _ (exec (Stmt.Assign _ (Expr.ListComp _ _ _ _) _) _) _ _ _)); (first | (k_unfold; (try dsimp only)) | walk1 | (dsimp only; walk1)))
    | fail "no step")
  rename Fr _ _ _ _ => F1
  rename News _ _ _ _ => N1
  have hB' : Bs ts ≤ 100000 := hB
  have hlen := Bs_len ts
  have hdpt : dpt (.node ts) = dpts ts + 1 := rfl
  simp only [picS] at hQ
  refine compAssign (l := a) (vs := vs) (cl := [(Str.ofString "depth", L + 1)]) (fun h i y => ∃ b t tk' n, y = .ref b ∧ ts[i]? = some t ∧ s.heap.get? b = none ∧ h.get? b = some (tupObj [.str (picS t (d + 1)).1 tk', .bool (picS t (d + 1)).2] n))
    (fun h h' i y hk ⟨b, t, tk', n, e1, e2, e0, e3⟩ => ⟨b, t, tk', n, e1, e2, e0, hk _ _ _ e3⟩) rfl rfl (by decide) rfl (by decide) rfl rfl rfl (fun Q' hq => nameL rfl rfl (by decide) F1.ns rfl hq) hh (hl.at fun o e => F1.keep _ _ e) (by rw [hall.length]; omega) F1.ns ?_ ?_
  · intro C i v s₃ m₃ E' hC hv hn hm hk
    obtain ⟨t, ht, hmem, hat⟩ := hall.get i v hv
    have hk' : ∀ b o, s.heap.get? b = some o → s₃.heap.get? b = some o := fun b o e => hk b o (F1.keep b o e)
    have h1 := Bs_mem hmem
    have h2 := dpts_mem hmem
    refine eltPic (t₀ := u) (d := d) rfl rfl rfl rfl rfl rfl hn hm ⟨_, hk _ _ (N1.get (.tail _ (.head _))), by assumption⟩ (X.keeps hk') (T.keeps hk') fun u' k => ?_
    refine ih t hmem (s := { s₃ with toks := k }) (X.keeps hk') (T.keeps hk') (hat.keeps hk') (by omega) hh (by show A.depth + 1 + dpt t < recursionLimit; omega) (by show A.units + 3 + 3 * dpt t + 10 < cLine; omega) (by omega) ?_
    intro b h' tk r tk' n hr hb hob hkk
    subst hr
    have hb0 : s.heap.get? b = none := by
      cases e : s.heap.get? b with
      | none => rfl
      | some o => exact absurd ((hk' b o e).symm.trans hb) (by simp)
    exact ⟨⟨b, t, tk', n, rfl, ht, hb0, hob⟩, h', tk, rfl, hkk⟩
  · intro D h2 tk2 ys hD hpl hylen hF hns hk
    have F2 : Fr s.heap L h2 _ := ⟨hns, fun b o e => hk b o (Nat.ne_of_lt (Nat.lt_of_lt_of_le (Heap.lt_size e) F1.above)) (F1.keep b o e), F1.above⟩
    have N2 : News s.heap L h2 _ := fun p hp => ⟨hk _ _ (N1 p hp).2.1 (N1 p hp).1, (N1 p hp).2⟩
    obtain ⟨nD, oD⟩ := hpl
    have N3 : News s.heap L h2 ((D, { cls := .type "list", data := .seq ys.toArray nD }) :: _) := newsAdd F1 N2 hD oD
    clear N2
    rw [hall.length] at hylen
    obtain ⟨tl, hT, NT⟩ : ∃ tl : List (Addr × Obj), (∀ (i : Nat) (y : Value), ys[i]? = some y → ∃ b t tk' n, y = Value.ref b ∧ ts[i]? = some t ∧ (b, tupObj [.str (picS t (d + 1)).1 tk', .bool (picS t (d + 1)).2] n) ∈ tl) ∧ News s.heap L h2 tl := by
      refine ⟨ys.filterMap (fun y => match y with | .ref b => (h2.get? b).map fun o => (b, o) | _ => none), fun i y hy => ?_, fun p hp => ?_⟩
      · obtain ⟨b, t, tk', n', rfl, ht, hb0, hob⟩ := hF i y hy
        exact ⟨b, t, tk', n', rfl, ht, List.mem_filterMap.mpr ⟨_, List.mem_of_getElem? hy, by simp [hob]⟩⟩
      · obtain ⟨y, hy, e⟩ := List.mem_filterMap.mp hp
        obtain ⟨i, hi⟩ := List.mem_iff_getElem?.mp hy
        obtain ⟨b, t, tk', n', rfl, ht, hb0, hob⟩ := hF i y hi
        simp only [hob, Option.map_some, Option.some.injEq] at e
        subst e
        refine ⟨hob, fun e => ?_, hb0⟩
        have e' : b = L := e
        obtain ⟨oL, es, ep, hoL, hdL, _⟩ := F2.ns
        rw [← e', hob] at hoL; cases hoL; cases hdL
    have N4 := newsApp N3 NT
    clear N3 NT
    simp only [List.cons_append, List.nil_append] at N4
    rcases ys with _ | ⟨y, _ | ⟨y2, ys⟩⟩
    · have hts : ts = [] := List.length_eq_zero_iff.mp hylen.symm
      have hbv : ((0 : Int) == 1) = onlyS (picsS ts (d + 1)) := by rw [hts]; rfl
      repeat' (first
        | ((fail_if_success (with_reducible show wpAny _ _ (eval (Expr.ListComp _ _ _ _) _) _ _ _)); (first | (k_unfold; (try dsimp only)) | walk1 | (dsimp only; walk1)))
        | fail "no step")
      rename Fr _ _ _ _ => F1
      rename News _ _ _ _ => N1
      rw [hbv] at F1
      refine compEval (l := D) (vs := []) (cl := []) (fun _ i y => ∃ t u, ts[i]? = some t ∧ y = .str (picS t (d + 1)).1 u) (fun _ _ _ _ _ h => h) rfl (by decide) rfl (by decide) rfl (fun Q' hq => nameL rfl rfl (by decide) F1.ns rfl hq) hh (N1.isList (by k_mem)) (by omega) ?_ ?_
      · intro C i v s₃ m₃ E' hC hv hn hm hk'
        obtain ⟨b, t, tk', n', rfl, ht, hmem⟩ := hT i v hv
        exact eltFst rfl rfl hn hm (hk' _ _ (N1.get (by repeat (first | exact hmem | apply List.Mem.tail)))) fun k => ⟨⟨t, tk', ht, rfl⟩, _, _, rfl, fun _ _ e => e⟩
      · intro D2 h3 tk3 zs hD2 hpl2 hzlen hF2 hk3
        have F3 := Fr.more F1 hk3
        obtain ⟨nD2, oD2⟩ := hpl2
        have N5 : News s.heap L h3 _ := News.more N1 hk3
        have N6 : News s.heap L h3 ((D2, { cls := .type "list", data := .seq zs.toArray nD2 }) :: _) := newsAdd F1 N5 hD2 oD2
        clear N5
        have hst : StrsAre zs ((picsS ts (d + 1)).map (·.1)) := strsAre_pics (d + 1) zs ts (hzlen.trans hylen) hF2
        have hJ1 := joinOk_pics ts (d + 1) (by omega)
        have hJ3 := joinPics_len ts (d + 1)
        have hmk : (mark d).length ≤ 1 := Nat.le_refl _
        k_steps
        · rename News _ _ _ _ => NZ
          rename (onlyS _ = true) => hbb
          exact hQ _ _ _ _ _ _ (wrap_t hbb).symm (NZ.fresh (List.Mem.head _)) (NZ.get (List.Mem.head _)) (Fr.keep (by assumption))
        · rename News _ _ _ _ => NZ
          rename (onlyS _ = false) => hbb
          exact hQ _ _ _ _ _ _ (wrap_f hbb).symm (NZ.fresh (List.Mem.head _)) (NZ.get (List.Mem.head _)) (Fr.keep (by assumption))
    · obtain ⟨b, t, tk', n', rfl, ht, hmem⟩ := hT 0 y rfl
      have hts : ts = [t] := by
        match ts, hylen, ht with
        | [t₀], _, ht => simp at ht; rw [ht]
      have hbv : (picS t (d + 1)).2 = onlyS (picsS ts (d + 1)) := by rw [hts]; rfl
      have N7 : News s.heap L h2 ((b, tupObj [.str (picS t (d + 1)).1 tk', .bool (picS t (d + 1)).2] n') :: _) := List.forall_mem_cons.mpr ⟨N4 _ (by repeat (first | exact hmem | apply List.Mem.tail)), N4⟩
      clear N4
      repeat' (first
        | ((fail_if_success (with_reducible show wpAny _ _ (eval (Expr.ListComp _ _ _ _) _) _ _ _)); (first | (k_unfold; (try dsimp only)) | walk1 | (dsimp only; walk1)))
        | fail "no step")
      rename Fr _ _ _ _ => F1
      rename News _ _ _ _ => N1
      rw [hbv] at F1
      refine compEval (l := D) (vs := [.ref b]) (cl := []) (fun _ i y => ∃ t u, ts[i]? = some t ∧ y = .str (picS t (d + 1)).1 u) (fun _ _ _ _ _ h => h) rfl (by decide) rfl (by decide) rfl (fun Q' hq => nameL rfl rfl (by decide) F1.ns rfl hq) hh (N1.isList (by k_mem)) (by omega) ?_ ?_
      · intro C i v s₃ m₃ E' hC hv hn hm hk'
        obtain ⟨b, t, tk', n', rfl, ht, hmem⟩ := hT i v hv
        exact eltFst rfl rfl hn hm (hk' _ _ (N1.get (by repeat (first | exact hmem | apply List.Mem.tail)))) fun k => ⟨⟨t, tk', ht, rfl⟩, _, _, rfl, fun _ _ e => e⟩
      · intro D2 h3 tk3 zs hD2 hpl2 hzlen hF2 hk3
        have F3 := Fr.more F1 hk3
        obtain ⟨nD2, oD2⟩ := hpl2
        have N5 : News s.heap L h3 _ := News.more N1 hk3
        have N6 : News s.heap L h3 ((D2, { cls := .type "list", data := .seq zs.toArray nD2 }) :: _) := newsAdd F1 N5 hD2 oD2
        clear N5
        have hst : StrsAre zs ((picsS ts (d + 1)).map (·.1)) := strsAre_pics (d + 1) zs ts (hzlen.trans hylen) hF2
        have hJ1 := joinOk_pics ts (d + 1) (by omega)
        have hJ3 := joinPics_len ts (d + 1)
        have hmk : (mark d).length ≤ 1 := Nat.le_refl _
        k_steps
        · rename News _ _ _ _ => NZ
          rename (onlyS _ = true) => hbb
          exact hQ _ _ _ _ _ _ (wrap_t hbb).symm (NZ.fresh (List.Mem.head _)) (NZ.get (List.Mem.head _)) (Fr.keep (by assumption))
        · rename News _ _ _ _ => NZ
          rename (onlyS _ = false) => hbb
          exact hQ _ _ _ _ _ _ (wrap_f hbb).symm (NZ.fresh (List.Mem.head _)) (NZ.get (List.Mem.head _)) (Fr.keep (by assumption))
    · have hbv : (((y :: y2 :: ys).length : Int) == 1) = onlyS (picsS ts (d + 1)) := by
        match ts, hylen with
        | t₁ :: t₂ :: ts', _ =>
          simp only [picsS, onlyS]
          rw [beq_eq_false_iff_ne]; simp; omega
      repeat' (first
        | ((fail_if_success (with_reducible show wpAny _ _ (eval (Expr.ListComp _ _ _ _) _) _ _ _)); (first | (k_unfold; (try dsimp only)) | walk1 | (dsimp only; walk1)))
        | fail "no step")
      · exfalso
        rename ((_ : Int) = 1) => hq
        simp at hq
        omega
      rename Fr _ _ _ _ => F1
      rename News _ _ _ _ => N1
      rw [hbv] at F1
      refine compEval (l := D) (vs := y :: y2 :: ys) (cl := []) (fun _ i y => ∃ t u, ts[i]? = some t ∧ y = .str (picS t (d + 1)).1 u) (fun _ _ _ _ _ h => h) rfl (by decide) rfl (by decide) rfl (fun Q' hq => nameL rfl rfl (by decide) F1.ns rfl hq) hh (N1.isList (by k_mem)) (by omega) ?_ ?_
      · intro C i v s₃ m₃ E' hC hv hn hm hk'
        obtain ⟨b, t, tk', n', rfl, ht, hmem⟩ := hT i v hv
        exact eltFst rfl rfl hn hm (hk' _ _ (N1.get (by repeat (first | exact hmem | apply List.Mem.tail)))) fun k => ⟨⟨t, tk', ht, rfl⟩, _, _, rfl, fun _ _ e => e⟩
      · intro D2 h3 tk3 zs hD2 hpl2 hzlen hF2 hk3
        have F3 := Fr.more F1 hk3
        obtain ⟨nD2, oD2⟩ := hpl2
        have N5 : News s.heap L h3 _ := News.more N1 hk3
        have N6 : News s.heap L h3 ((D2, { cls := .type "list", data := .seq zs.toArray nD2 }) :: _) := newsAdd F1 N5 hD2 oD2
        clear N5
        have hst : StrsAre zs ((picsS ts (d + 1)).map (·.1)) := strsAre_pics (d + 1) zs ts (hzlen.trans hylen) hF2
        have hJ1 := joinOk_pics ts (d + 1) (by omega)
        have hJ3 := joinPics_len ts (d + 1)
        have hmk : (mark d).length ≤ 1 := Nat.le_refl _
        k_steps
        · rename News _ _ _ _ => NZ
          rename (onlyS _ = true) => hbb
          exact hQ _ _ _ _ _ _ (wrap_t hbb).symm (NZ.fresh (List.Mem.head _)) (NZ.get (List.Mem.head _)) (Fr.keep (by assumption))
        · rename News _ _ _ _ => NZ
          rename (onlyS _ = false) => hbb
          exact hQ _ _ _ _ _ _ (wrap_f hbb).symm (NZ.fresh (List.Mem.head _)) (NZ.get (List.Mem.head _)) (Fr.keep (by assumption))
theorem pic_spec {w : World} {mg mb : Str → Option Value} : ∀ t, PicTells w mg mb t := Tr.ind pics_leaf pics_node
end Mine
end

section
open PySem PySem.W PyProof.Rows PySem.Calls
namespace Mine

noncomputable def okC (c : Nat) : Bool := decide (c < 48) || decide (51 < c)
noncomputable def okS (x : Str) : Prop := x.length ≤ 3 ∧ x.cps.toList.all okC = true
theorem ok_item {x : Str} (h : x.cps.toList.all okC = true) (i : Int) : okS (Txt.item x i) := by
  refine ⟨Nat.le_of_lt (by show 1 < 3; decide), ?_⟩
  unfold Txt.item Txt.charAt
  cases hj : (seqIndex? i x.length).bind (x.cps[·]?) with
  | none => rfl
  | some c =>
    obtain ⟨j, _, hc⟩ := Option.bind_eq_some_iff.mp hj
    have hm : c ∈ x.cps.toList := by rw [Array.mem_toList_iff]; exact Array.mem_of_getElem? hc
    have := List.all_eq_true.mp h c hm
    simp [this]
theorem ok_chr {c : Nat} (h : (Builtin.Str.occurrences (Str.ofString "0123") ⟨#[c]⟩ 0 (Str.ofString "0123").length 1).isEmpty = true) : okS ⟨#[c]⟩ := by
  refine ⟨Nat.le_of_lt (by show 1 < 3; decide), ?_⟩
  have h1 := StrLaws.found_one (Str.ofString "0123") c
  rw [h] at h1
  have h2 : c ∉ (Str.ofString "0123").cps.toList := of_decide_eq_false h1.symm
  have h3 : (Str.ofString "0123").cps.toList = [48, 49, 50, 51] := by decide +kernel
  rw [h3] at h2
  simp only [List.mem_cons, List.not_mem_nil, or_false, not_or] at h2
  simp [okC]
  omega
theorem ok_bc : (Str.ofString "bc_@%+=:,./-").cps.toList.all okC = true := by decide +kernel
theorem ok_sh : (Str.ofString "~*?!$`&|;<>()[]{}^#\t\x0d\n").cps.toList.all okC = true := by decide +kernel
theorem ok_w1 : okS (Str.ofString "'") := ⟨by decide +kernel, by decide +kernel⟩
theorem ok_w2 : okS (Str.ofString "\"") := ⟨by decide +kernel, by decide +kernel⟩
theorem ok_w3 : okS (Str.ofString "a") := ⟨by decide +kernel, by decide +kernel⟩
theorem ok_w4 : okS (Str.ofString " ") := ⟨by decide +kernel, by decide +kernel⟩
theorem ok_w5 : okS (Str.ofString "\"'\"") := ⟨by decide +kernel, by decide +kernel⟩
theorem ok_w6 : okS (Str.ofString "\\") := ⟨by decide +kernel, by decide +kernel⟩

set_option maxRecDepth 100000 in
set_option maxHeartbeats 4000000 in
theorem sign_spec {w : World} {mg mb : Str → Option Value} (x : Int) (t : Tok) {A : Around} {s : Shared} {Q E : Value → Shared → Prop}
   (X : (hd.heap_39 w.params).In s.heap) (T : TopRead hd.view_39 LO mg mb s.heap) (hh : A.handled = none) (hdp : A.depth < recursionLimit) (hu : A.units + 10 < cLine) (h0 : 0 ≤ x) (h1 : x < 17793024) (hk3 : 3 ≤ x.fmod 16) (hk13 : x.fmod 16 ≠ 13) (hk14 : x.fmod 16 ≠ 14)
   (hQ : ∀ r h' tk tk', okS r → (∀ b o, s.heap.get? b = some o → h'.get? b = some o) → Q (.str r tk') { s with heap := h', toks := tk }) :
   wpAny (model Challenge.rw_mj0033_01.row.prog w) A (call (.ref 65) [.int x t]) Q E s := by
  revert X; k_fill; intro X
  refine wpAny_call ?_
  refine' enterK (binds := [(Str.ofString "x", .int x t)]) X T.nolimit ?k6 ?k7 (by omega) ?k9 ?kB ?_ ?c2 ?c3 ?c4 ?c5
  (case k6 => k_is)
  (case k7 => k_is)
  (case k9 => exact BindsTo.of_eq rfl)
  (case kB => exact locs rfl)
  (case c2 => exact rfl)
  (case c3 => exact rfl)
  (case c4 => exact rfl)
  (case c5 => decide)
  intro L h₁ F N X
  (try k_fold)
  k_steps
  all_goals (refine hQ _ _ _ _ ?_ (Fr.keep (by assumption)))
  all_goals with_reducible (first | exact ok_item ok_bc _ | exact ok_item ok_sh _ | exact ok_w1 | exact ok_w2 | exact ok_w3 | exact ok_w4 | exact ok_w5 | exact ok_w6 | exact ok_chr (by assumption))
end Mine
end

section
open PySem PySem.W PyProof.Rows PySem.Calls
namespace Mine
section
variable {prog : Program} {w : World} {A : Around} {E : Value → Shared → Prop} {s : Shared} {h₀ h : Heap} {L a : Addr} {m : Str → Option Value} {news news' : List (Addr × Obj)} {xs : List Value} {v : Value} {n : Nat}

theorem kl_last_snoc : ∀ (xs : List Value) (v : Value), kl_last (xs ++ [v]) = some (xs, v)
  | [], v => rfl
  | [x], v => rfl
  | x :: y :: r, v => by
    have := kl_last_snoc (y :: r) v
    simp only [List.cons_append] at this ⊢
    unfold kl_last
    rw [this]

theorem appendU {Q : Value → Shared → Prop} (F : Fr h₀ L s.heap m) (N : News h₀ L s.heap news) (U : Upd a (listObj xs n) (listObj (xs ++ [v]) (n + 1)) news news') (hz : xs.length ≤ 1000000)
    (h : ∀ h', Fr h₀ L h' m → News h₀ L h' news' → Q .none { s with heap := h' }) : wpAny (model prog w) A (call (.builtin "list.append") [.ref a, v]) Q E s := by
  obtain ⟨pre, post, rfl, rfl, h1, h2⟩ := U.split
  have ho := (N (a, listObj xs n) (by simp)).1
  refine wpAny_call_entry slot_list_append ⟨_, ho, rfl⟩ entry_list_append ?_ (args_list_append _ _)
  show wpAny _ _ (updateSeq a (·.push v) >>= fun _ => ret .none) _ _ s
  refine wpAny_bind ?_
  have e : Obj.mapSeq (·.push v) (listObj xs n) = listObj (xs ++ [v]) (n + 1) := by
    rw [Obj.mapSeq_push_plain]; simp
  obtain ⟨F', N'⟩ := news_upd (f := Obj.mapSeq (·.push v)) F N h1 h2 e rfl
  exact wpAny_updateSeq ho rfl (wpAny_pure ⟨.none, rfl, h _ F' N'⟩) (by simp only [List.size_toArray, sizeLine]; omega) (by simp only [Array.size_push, List.size_toArray, sizeLine]; omega)
theorem popU {Q : Value → Shared → Prop} (F : Fr h₀ L s.heap m) (N : News h₀ L s.heap news) (U : Upd a (listObj (xs ++ [v]) n) (listObj xs (n + 1)) news news') (hz : xs.length ≤ 1000000)
    (h : ∀ h', Fr h₀ L h' m → News h₀ L h' news' → Q v { s with heap := h' }) : wpAny (model prog w) A (call (.builtin "list.pop") [.ref a]) Q E s :=
  kl_pop F N (its := (xs ++ [v]).toArray) (by simpa using kl_last_snoc xs v) U (by simp [sizeLine]; omega) h
theorem itemLast {value slice : Expr} {u : Tok} {Q : Value → Shared → Prop} (hl : s.heap.IsList a (xs ++ [v]).toArray) (hz : xs.length ≤ 1000000) (h : Q v s)
    (hs : subscripted slice false (.ref a) (.int (-1) u) = operate [.ref a, .int (-1) u] (getItem (.ref a) (.int (-1) u)) := by with_unfolding_all rfl)  :
    wpAny (model prog w) A (subscriptTail value slice (.ref a) (.int (-1) u)) Q E s := by
  refine tail_any hl.typeIs slot_list_getitem.lookup (wpAny_getItem_list_neg hl (by decide) ?_ (by decide) ?_ h) hs
  · simp; omega
  · simp
    have : (-1 + ((xs.length : Int) + 1)).toNat = xs.length := by omega
    rw [this]; simp
theorem setLastU {v' : Value} {u : Tok} {Q : Unit → Shared → Prop} (F : Fr h₀ L s.heap m) (N : News h₀ L s.heap news) (U : Upd a (listObj (xs ++ [v]) n) (listObj (xs ++ [v']) n) news news') (hz : xs.length ≤ 1000000)
    (h : ∀ h', Fr h₀ L h' m → News h₀ L h' news' → Q () { s with heap := h' }) : wpAny (model prog w) A (setItem (.ref a) (.int (-1) u) v') Q E s := by
  obtain ⟨pre, post, rfl, rfl, h1, h2⟩ := U.split
  have ho := (N (a, listObj (xs ++ [v]) n) (by simp)).1
  have hl : s.heap.IsList a (xs ++ [v]).toArray := ⟨_, ho, rfl, n, rfl⟩
  unfold setItem
  try with_reducible refine wpAny_holding ?_
  first | refine wpAny_bind (wpAny_pure ?_) | skip
  refine wpAny_bind (wpAny_sequenceKey hl.typeIs (by decide) ?_)
  refine wpAny_bind (wpAny_callSpecial?_slot (name := Str.ofString "__setitem__") hl.typeIs PySem.slot_list_setitem
    (wpAny_call_entry PySem.slot_list_setitem hl.typeIs PySem.entry_list_setitem ?_ (args_list_setitem _ _ _)))
  show wpAny _ _ (Builtin.List.listSubscript? (.int (-1) u) >>= _) _ _ s
  refine wpAny_bind (wpAny_listSubscript_int (fitsIndex_neg (by decide) (by decide)) ?_)
  show wpAny _ _ ((Builtin.List.listItems (.ref a) >>= fun xs => pure ((seqIndex? (Int.negSucc 0) xs.size).bind fun i => xs[i]?.map (i, ·))) >>= _) _ _ s
  refine wpAny_bind (wpAny_bind ?_)
  show wpAny _ _ (seqItems? (.ref a) >>= _) _ _ s
  refine wpAny_bind (wpAny_seqItems ho rfl (wpAny_pure (wpAny_pure ?_)))
  have hidx : seqIndex? (Int.negSucc 0) (xs ++ [v]).toArray.size = some xs.length := by
    rw [PySem.seqIndex_neg (by decide) (by simp; omega)]
    simp
    omega
  rw [hidx]
  simp only [Option.bind_some, List.getElem?_toArray, List.getElem?_append_right (Nat.le_refl _), Nat.sub_self, List.getElem?_cons_zero, Option.map_some]
  have e : Obj.mapSeq (·.setIfInBounds xs.length v') (listObj (xs ++ [v]) n) = listObj (xs ++ [v']) n := by
    simp [Obj.mapSeq]
  obtain ⟨F', N'⟩ := news_upd (f := Obj.mapSeq (·.setIfInBounds xs.length v')) F N h1 h2 e rfl
  refine wpAny_bind (wpAny_setSeqItemAt ho rfl ?_)
  exact wpAny_pure ⟨.none, rfl, wpAny_pure (h _ F' N')⟩
end
end Mine
end

section
open PySem PySem.W PyProof.Rows PySem.Calls
namespace Mine

abbrev Ent := Addr × List Value × Nat × List Tr
noncomputable def ents : List Value → List Ent → List (Addr × Obj)
  | _, [] => []
  | o, (a, vs, n, _) :: r => (a, listObj (vs ++ o) n) :: ents [.ref a] r

mutual
inductive InL (cl : List (Addr × Obj)) : Value → Tr → Prop where
  | leaf (x : Str) (t : Tok) : InL cl (.str x t) (.leaf x)
  | node {a : Addr} {n : Nat} {vs : List Value} {ts : List Tr} : (a, listObj vs n) ∈ cl → InAll cl vs ts → InL cl (.ref a) (.node ts)
inductive InAll (cl : List (Addr × Obj)) : List Value → List Tr → Prop where
  | nil : InAll cl [] []
  | cons {v : Value} {t : Tr} {vs : List Value} {ts : List Tr} : InL cl v t → InAll cl vs ts → InAll cl (v :: vs) (t :: ts)
end
mutual
theorem InL.mono {cl cl' : List (Addr × Obj)} (h : ∀ p ∈ cl, p ∈ cl') : ∀ {v : Value} {t : Tr}, InL cl v t → InL cl' v t
  | _, _, .leaf x t => .leaf x t
  | _, _, .node hm r => .node (h _ hm) (InAll.mono h r)
theorem InAll.mono {cl cl' : List (Addr × Obj)} (h : ∀ p ∈ cl, p ∈ cl') : ∀ {vs : List Value} {ts : List Tr}, InAll cl vs ts → InAll cl' vs ts
  | _, _, .nil => .nil
  | _, _, .cons a r => .cons (InL.mono h a) (InAll.mono h r)
end
mutual
theorem InL.at {cl : List (Addr × Obj)} {h : Heap} (hk : ∀ p ∈ cl, h.get? p.1 = some p.2) : ∀ {v : Value} {t : Tr}, InL cl v t → At h [] v t
  | _, _, .leaf x t => .leaf x t
  | _, _, .node hm r => .node (by simp) (hk _ hm) (InAll.at hk r)
theorem InAll.at {cl : List (Addr × Obj)} {h : Heap} (hk : ∀ p ∈ cl, h.get? p.1 = some p.2) : ∀ {vs : List Value} {ts : List Tr}, InAll cl vs ts → AtAll h [] vs ts
  | _, _, .nil => .nil
  | _, _, .cons a r => .cons (InL.at hk a) (InAll.at hk r)
end
theorem InAll.snoc {cl : List (Addr × Obj)} {v : Value} {t : Tr} : ∀ {vs : List Value} {ts : List Tr}, InAll cl vs ts → InL cl v t → InAll cl (vs ++ [v]) (ts ++ [t])
  | _, _, .nil, h => .cons h .nil
  | _, _, .cons a r, h => .cons a (r.snoc h)
theorem InAll.unsnoc {cl : List (Addr × Obj)} {v : Value} : ∀ {vs : List Value} {ts : List Tr}, InAll cl (vs ++ [v]) ts → ∃ ts' t, ts = ts' ++ [t] ∧ InAll cl vs ts' ∧ InL cl v t
  | [], _, .cons a .nil => ⟨[], _, rfl, .nil, a⟩
  | _ :: _, _, .cons a r => by
    obtain ⟨ts', t, rfl, h1, h2⟩ := InAll.unsnoc r
    exact ⟨_ :: ts', t, rfl, .cons a h1, h2⟩
theorem InAll.length {cl : List (Addr × Obj)} : ∀ {vs : List Value} {ts : List Tr}, InAll cl vs ts → vs.length = ts.length
  | _, _, .nil => rfl
  | _, _, .cons _ r => by simp [r.length]

mutual
noncomputable def szT : Tr → Nat
  | .leaf x => x.length + 1
  | .node ts => szs ts + 1
noncomputable def szs : List Tr → Nat
  | [] => 0
  | t :: ts => szT t + szs ts
end
mutual
noncomputable def okT : Tr → Bool
  | .leaf x => x.cps.toList.all okC
  | .node ts => okTs ts
noncomputable def okTs : List Tr → Bool
  | [] => true
  | t :: ts => okT t && okTs ts
end
theorem szs_append (a b : List Tr) : szs (a ++ b) = szs a + szs b := by
  induction a with
  | nil => simp [szs]
  | cons t r ih => simp only [List.cons_append, szs, ih]; omega
theorem okTs_append (a b : List Tr) : okTs (a ++ b) = (okTs a && okTs b) := by
  induction a with
  | nil => simp [okTs]
  | cons t r ih => simp only [List.cons_append, okTs, ih, Bool.and_assoc]
theorem dpts_append (a b : List Tr) : dpts (a ++ b) = max (dpts a) (dpts b) := by
  induction a with
  | nil => simp [dpts]
  | cons t r ih => simp only [List.cons_append, dpts, ih]; omega
noncomputable def total : List Ent → Nat
  | [] => 0
  | (_, _, _, ts) :: r => szs ts + 1 + total r
noncomputable def depOk : List Ent → Prop
  | [] => True
  | (_, _, _, ts) :: r => dpts ts + r.length ≤ 2 ∧ depOk r
noncomputable def refsOf (σ : List Ent) : List Value := (σ.map fun e => Value.ref e.1).reverse

structure Inv (a0 : Addr) (i : Nat) (news : List (Addr × Obj)) (aB : Addr) (nB : Nat) (σ : List Ent) (cl : List (Addr × Obj)) : Prop where
  eq : news = (aB, listObj (refsOf σ) nB) :: (ents [] σ ++ cl)
  nd : (news.map (·.1)).Nodup
  ne : σ ≠ []
  top : σ.getLast?.map (·.1) = some a0
  le : σ.length ≤ 3
  ins : ∀ e ∈ σ, InAll cl e.2.1 e.2.2.2
  dep : depOk σ
  ok : ∀ e ∈ σ, okTs e.2.2.2 = true
  sz : total σ ≤ 4 * i + 1

noncomputable def mapOf (u : Str → Option Value) (aB a0 l : Addr) : Str → Option Value := fun z => if z = Str.ofString "x" then u z else if z = Str.ofString "kind" then u z else if z = Str.ofString "last" then u z else
  if z = Str.ofString "top" then some (Value.ref a0) else if z = Str.ofString "branches" then some (Value.ref aB) else List.lookup z [(Str.ofString "numbers", Value.ref l)].reverse
theorem mapOf_start (aB a0 l : Addr) : (fun y => if y = Str.ofString "top" then some (Value.ref a0) else if y = Str.ofString "branches" then some (Value.ref aB) else List.lookup y [(Str.ofString "numbers", Value.ref l)].reverse) = mapOf (fun _ => none) aB a0 l := by
  funext z
  unfold mapOf
  by_cases h1 : z = Str.ofString "x"
  · subst h1
    have e1 : ¬ (Str.ofString "x" = Str.ofString "top") := by decide +kernel
    have e2 : ¬ (Str.ofString "x" = Str.ofString "branches") := by decide +kernel
    have e3 : (Str.ofString "x" == Str.ofString "numbers") = false := by decide +kernel
    simp [e1, e2, List.lookup, e3]
  · by_cases h2 : z = Str.ofString "kind"
    · subst h2
      have e1 : ¬ (Str.ofString "kind" = Str.ofString "top") := by decide +kernel
      have e2 : ¬ (Str.ofString "kind" = Str.ofString "branches") := by decide +kernel
      have e3 : (Str.ofString "kind" == Str.ofString "numbers") = false := by decide +kernel
      simp [e1, e2, List.lookup, e3]
    · by_cases h3 : z = Str.ofString "last"
      · subst h3
        have e1 : ¬ (Str.ofString "last" = Str.ofString "top") := by decide +kernel
        have e2 : ¬ (Str.ofString "last" = Str.ofString "branches") := by decide +kernel
        have e3 : (Str.ofString "last" == Str.ofString "numbers") = false := by decide +kernel
        simp [e1, e2, List.lookup, e3]
      · simp only [if_neg h1, if_neg h2, if_neg h3]
theorem mapOf_upd (u : Str → Option Value) (aB a0 l : Addr) (vl vk vx : Option Value) : ∃ u', (fun y => if y = Str.ofString "last" then vl else if y = Str.ofString "kind" then vk else if y = Str.ofString "x" then vx else mapOf u aB a0 l y) = mapOf u' aB a0 l := by
  refine ⟨fun y => if y = Str.ofString "last" then vl else if y = Str.ofString "kind" then vk else vx, ?_⟩
  funext z
  unfold mapOf
  by_cases h1 : z = Str.ofString "x"
  · subst h1
    have e1 : ¬ (Str.ofString "x" = Str.ofString "last") := by decide +kernel
    have e2 : ¬ (Str.ofString "x" = Str.ofString "kind") := by decide +kernel
    simp [e1, e2]
  · by_cases h2 : z = Str.ofString "kind"
    · subst h2
      have e1 : ¬ (Str.ofString "kind" = Str.ofString "last") := by decide +kernel
      simp [e1, h1]
    · by_cases h3 : z = Str.ofString "last"
      · subst h3; simp [h1, h2]
      · simp only [if_neg h1, if_neg h2, if_neg h3]

section
variable {prog : Program} {w : World} {A : Around} {E : Value → Shared → Prop} {s : Shared} {h₀ : Heap} {env : Env} {x : Str} {body : List Stmt} {Q : Flow → Shared → Prop}
theorem iter_invT {l : Addr} {vs : List Value} {ns : List Int} {m₀ : Str → Option Value} {news : List (Addr × Obj)} (J : Nat → (Str → Option Value) → List (Addr × Obj) → Prop)
    (hh : A.handled = none) (hl : h₀.IsList l vs.toArray) (hi : IntsAre vs ns) (F : Fr h₀ env.locals s.heap m₀) (N : News h₀ env.locals s.heap news) (hj : J 0 m₀ news)
    (turn : ∀ i n t m₁ news₁ h tk own (Qn : Flow → Shared → Prop), ns[i]? = some n → (∀ p ∈ own, ∀ q ∈ news₁, p.1 ≠ q.1) → J i m₁ news₁ → Fr h₀ env.locals h (fun y => if y = x then some (.int n t) else m₁ y) → News h₀ env.locals h (news₁ ++ own) →
      (∀ h' tk' m' nx, Fr h₀ env.locals h' m' → News h₀ env.locals h' (nx ++ own) → (∀ p ∈ own, ∀ q ∈ nx, p.1 ≠ q.1) → J (i + 1) m' nx → Qn .next { s with heap := h', toks := tk' }) →
      wpAny (model prog w) A (execs body env) Qn E { s with heap := h, toks := tk })
    (done : ∀ m₁ news₁ h tk, J ns.length m₁ news₁ → Fr h₀ env.locals h m₁ → News h₀ env.locals h news₁ → Q .next { s with heap := h, toks := tk }) :
    wpAny (model prog w) A (pyIter (.ref l)) (fun it s₂ => LoopAtV prog w A h₀ env x body Q E it s₂) E s := by
  have hls : s.heap.IsList l vs.toArray := hl.at fun o e => F.keep l o e
  obtain ⟨ol, hol, _⟩ := id hl
  have hlt : l < h₀.objs.size := Heap.lt_size hol
  have hne : l ≠ s.heap.objs.size := Nat.ne_of_lt (Nat.lt_trans (Nat.lt_of_lt_of_le hlt F.above) F.ns.lt)
  refine wpAny_pyIter_list hls ?_
  have W := Walks.list (prog := prog) (w := w) hh s.heap.objs.size l hne vs.toArray
  have hlen : vs.toArray.size = ns.length := by simp [hi.length]
  rw [hlen] at W
  refine ⟨_, _, _, ns.length, _, _, m₀, news, J, rfl, W, ?_, ?_, ?_, ⟨⟨_, Heap.get?_push_size _ rfl, rfl, rfl⟩, hls.at fun o e => Heap.get?_push_of_some _ e⟩, F.push _, (fun p hp => ⟨Heap.get?_push_of_some _ (N p hp).1, (N p hp).2⟩), hj, ?_, ?_⟩
  · intro hm
    rcases List.mem_cons.mp hm with e | hm
    · exact absurd F.ns.lt (e ▸ Nat.lt_irrefl _)
    · exact absurd (Nat.lt_of_lt_of_le hlt F.above) ((List.mem_singleton.mp hm) ▸ Nat.lt_irrefl _)
  · intro b hb
    rw [List.mem_singleton.mp hb]
    exact next_is_new F
  · intro p hp hI
    exact absurd (Heap.lt_size (N p hp).1) ((List.mem_singleton.mp hI) ▸ Nat.lt_irrefl _)
  · rintro i v m₁ news₁ s₁ own ⟨hh', tk', rfl⟩ hin hP hJ hoff hown hog hfo hst F₁ N₁
    have hsep : ∀ p ∈ own, ∀ q ∈ news₁, p.1 ≠ q.1 := by
      intro p hp q hq e
      rcases List.mem_cons.mp (hown p hp) with h1 | h1
      · exact hoff q hq (by rw [← e, h1]; exact List.mem_singleton.mpr rfl)
      · have h2 := List.mem_singleton.mp h1
        have h3 := (N₁ q (List.mem_append_right _ hq)).2.2
        rw [← e, h2, hol] at h3
        cases h3
    have hlt' : i < ns.length := hin
    obtain ⟨t, hx⟩ := hi.get i ns[i] (by simp [hlt'])
    have hv : v = .int ns[i] t := by
      have hP' : vs[i]? = some v := by simpa using hP
      rw [hx] at hP'; exact (Option.some.inj hP').symm
    subst hv
    have N₂ : News h₀ env.locals hh' (news₁ ++ own) := fun p hp => N₁ p ((List.mem_append.mp hp).elim (fun h => List.mem_append.mpr (.inr h)) fun h => List.mem_append.mpr (.inl h))
    refine turn i ns[i] t m₁ news₁ hh' tk' own _ (by simp [hlt']) hsep hJ F₁ N₂ fun h' tk m' nx F' N' hoff' hJ' => ?_
    refine LoopStepV.next ⟨rfl, h', tk, m', nx, rfl, F', fun p hp => N' p ((List.mem_append.mp hp).elim (fun h => List.mem_append.mpr (.inr h)) fun h => List.mem_append.mpr (.inl h)), fun p hp hq => ?_, hJ'⟩
    have hI := List.mem_singleton.mp hq
    obtain ⟨⟨oI, hoI, _⟩, _⟩ := hst
    have hm := hfo s.heap.objs.size (List.mem_cons_self ..) (next_is_new F) oI hoI
    exact hoff' _ hm p hp hI.symm
  · rintro h' tk m' news' F' N' _ hJ
    exact done m' news' h' tk hJ F' N'
end
end Mine
end

section
open PySem PySem.W PyProof.Rows PySem.Calls
namespace Mine
theorem refsOf_cons (a : Addr) (vs : List Value) (n : Nat) (ts : List Tr) (σ : List Ent) : refsOf ((a, vs, n, ts) :: σ) = refsOf σ ++ [.ref a] := by simp [refsOf]
theorem refsOf_len (σ : List Ent) : (refsOf σ).length = σ.length := by simp [refsOf]
theorem len_le_szs : ∀ ts : List Tr, ts.length ≤ szs ts
  | [] => Nat.le_refl _
  | .leaf x :: r => by have := len_le_szs r; simp only [List.length_cons, szs, szT]; omega
  | .node ts :: r => by have := len_le_szs r; simp only [List.length_cons, szs, szT]; omega
theorem kind_out {k : Int} (h0 : 0 ≤ k) (h : ([0, 1, 2, 13, 14].any fun x => x == k) = false) : 3 ≤ k ∧ k ≠ 13 ∧ k ≠ 14 := by
  simp at h
  omega
noncomputable abbrev led (aB : Addr) (nB : Nat) (σ : List Ent) (cl : List (Addr × Obj)) : List (Addr × Obj) := (aB, listObj (refsOf σ) nB) :: (ents [] σ ++ cl)
theorem ents_fst (o : List Value) (σ : List Ent) : (ents o σ).map (·.1) = σ.map (·.1) := by
  induction σ generalizing o with
  | nil => rfl
  | cons e r ih => obtain ⟨a, vs, n, ts⟩ := e; simp [ents, ih]
theorem led_fst (aB : Addr) (nB : Nat) (σ : List Ent) (cl : List (Addr × Obj)) : (led aB nB σ cl).map (·.1) = aB :: (σ.map (·.1) ++ cl.map (·.1)) := by
  simp [led, ents_fst]
section
variable {a0 aB aL a' : Addr} {i nB nB' n n' : Nat} {vs vs' : List Value} {ts ts' : List Tr} {σr : List Ent} {cl : List (Addr × Obj)}
theorem Inv.opened (I : Inv a0 i (led aB nB ((aL, vs, n, ts) :: σr) cl) aB nB ((aL, vs, n, ts) :: σr) cl) (h2 : σr.length ≤ 1) (h1 : a' ≠ aB) (h3 : a' ≠ aL) (h4 : ∀ p ∈ ents [.ref aL] σr ++ cl, p.1 ≠ a') :
    Inv a0 (i + 1) (led aB nB' ((a', [], 0, []) :: (aL, vs, n', ts) :: σr) cl) aB nB' ((a', [], 0, []) :: (aL, vs, n', ts) :: σr) cl := by
  refine ⟨rfl, ?_, by simp, ?_, by simp; omega, ?_, ?_, ?_, ?_⟩
  · have nd := I.nd
    rw [led_fst] at nd ⊢
    have h4' : a' ∉ σr.map (·.1) ++ cl.map (·.1) := by
      intro hm
      rw [← ents_fst [.ref aL], ← List.map_append] at hm
      obtain ⟨p, hp, e⟩ := List.mem_map.mp hm
      exact h4 p hp e
    simp only [List.map_cons, List.cons_append, List.nodup_cons, List.mem_cons, not_or] at nd ⊢
    exact ⟨⟨fun e => h1 e.symm, nd.1.1, nd.1.2⟩, ⟨h3, h4'⟩, nd.2.1, nd.2.2⟩
  · have := I.top
    cases σr <;> simpa using this
  · intro e he
    rcases List.mem_cons.mp he with rfl | he
    · exact .nil
    · rcases List.mem_cons.mp he with rfl | he
      · exact I.ins (aL, vs, n, ts) (List.mem_cons_self ..)
      · exact I.ins e (List.mem_cons_of_mem _ he)
  · have := I.dep
    simp only [depOk, dpts, List.length_cons] at this ⊢
    exact ⟨by omega, this⟩
  · intro e he
    rcases List.mem_cons.mp he with rfl | he
    · rfl
    · rcases List.mem_cons.mp he with rfl | he
      · exact I.ok (aL, vs, n, ts) (List.mem_cons_self ..)
      · exact I.ok e (List.mem_cons_of_mem _ he)
  · have := I.sz
    simp only [total, szs] at this ⊢
    omega
theorem Inv.popped {a1 : Addr} {vs1 : List Value} {n1 : Nat} {ts1 : List Tr} (I : Inv a0 i (led aB nB ((aL, vs, n, ts) :: (a1, vs1, n1, ts1) :: σr) cl) aB nB ((aL, vs, n, ts) :: (a1, vs1, n1, ts1) :: σr) cl) :
    Inv a0 (i + 1) (led aB nB' ((a1, vs1 ++ [.ref aL], n1, ts1 ++ [.node ts]) :: σr) ((aL, listObj vs n) :: cl)) aB nB' ((a1, vs1 ++ [.ref aL], n1, ts1 ++ [.node ts]) :: σr) ((aL, listObj vs n) :: cl) := by
  have hmono : ∀ p ∈ cl, p ∈ (aL, listObj vs n) :: cl := fun p hp => List.mem_cons_of_mem _ hp
  refine ⟨rfl, ?_, by simp, ?_, ?_, ?_, ?_, ?_, ?_⟩
  · have nd := I.nd
    rw [led_fst] at nd ⊢
    refine nd.perm (List.Perm.cons _ ?_)
    simp only [List.map_cons, List.cons_append]
    refine (List.Perm.swap ..).trans (List.Perm.cons _ ?_)
    exact List.perm_middle.symm
  · have := I.top
    cases σr <;> simpa using this
  · have := I.le
    simp at this ⊢
    omega
  · intro e he
    rcases List.mem_cons.mp he with rfl | he
    · exact InAll.snoc ((I.ins (a1, vs1, n1, ts1) (by simp)).mono hmono) (.node (List.mem_cons_self ..) ((I.ins (aL, vs, n, ts) (by simp)).mono hmono))
    · exact (I.ins e (by simp [he])).mono hmono
  · have := I.dep
    simp only [depOk, List.length_cons, dpts_append, dpts, dpt] at this ⊢
    exact ⟨by omega, this.2.2⟩
  · intro e he
    rcases List.mem_cons.mp he with rfl | he
    · have h1 := I.ok (a1, vs1, n1, ts1) (by simp)
      have h2 := I.ok (aL, vs, n, ts) (by simp)
      simp only [okTs_append, okTs, okT] at h1 h2 ⊢
      rw [h1, h2]; rfl
    · exact I.ok e (by simp [he])
  · have := I.sz
    simp only [total, szs, szs_append, szT] at this ⊢
    omega
theorem Inv.pushed {c : Str} {tk : Tok} (I : Inv a0 i (led aB nB ((aL, vs, n, ts) :: σr) cl) aB nB ((aL, vs, n, ts) :: σr) cl) (hc : okS c) :
    Inv a0 (i + 1) (led aB nB' ((aL, vs ++ [.str c tk], n', ts ++ [.leaf c]) :: σr) cl) aB nB' ((aL, vs ++ [.str c tk], n', ts ++ [.leaf c]) :: σr) cl := by
  refine ⟨rfl, ?_, by simp, ?_, I.le, ?_, ?_, ?_, ?_⟩
  · have nd := I.nd
    rw [led_fst] at nd ⊢
    exact nd
  · have := I.top
    cases σr <;> simpa using this
  · intro e he
    rcases List.mem_cons.mp he with rfl | he
    · exact InAll.snoc (I.ins (aL, vs, n, ts) (by simp)) (.leaf _ _)
    · exact I.ins e (by simp [he])
  · have := I.dep
    simp only [depOk, dpts_append, dpts, dpt] at this ⊢
    exact ⟨by omega, this.2⟩
  · intro e he
    rcases List.mem_cons.mp he with rfl | he
    · have h1 := I.ok (aL, vs, n, ts) (by simp)
      simp only [okTs_append, okTs, okT] at h1 ⊢
      rw [h1, hc.2]; rfl
    · exact I.ok e (by simp [he])
  · have := I.sz
    have := hc.1
    simp only [total, szs, szs_append, szT] at *
    omega
theorem all_append_str {x y : Str} {p : Nat → Bool} : (x ++ y).cps.toList.all p = (x.cps.toList.all p && y.cps.toList.all p) := by
  show (x.cps ++ y.cps).toList.all p = _
  simp
theorem Inv.seted {c y : Str} {tk t0 : Tok} (I : Inv a0 i (led aB nB ((aL, vs ++ [.str y t0], n, ts) :: σr) cl) aB nB ((aL, vs ++ [.str y t0], n, ts) :: σr) cl) (hc : okS c) :
    ∃ ts', Inv a0 (i + 1) (led aB nB' ((aL, vs ++ [.str (y ++ c) tk], n', ts') :: σr) cl) aB nB' ((aL, vs ++ [.str (y ++ c) tk], n', ts') :: σr) cl := by
  obtain ⟨ts'', t, rfl, h1, h2⟩ := (I.ins (aL, vs ++ [.str y t0], n, ts) (by simp)).unsnoc
  cases h2
  refine ⟨ts'' ++ [.leaf (y ++ c)], rfl, ?_, by simp, ?_, I.le, ?_, ?_, ?_, ?_⟩
  · have nd := I.nd
    rw [led_fst] at nd ⊢
    exact nd
  · have := I.top
    cases σr <;> simpa using this
  · intro e he
    rcases List.mem_cons.mp he with rfl | he
    · exact InAll.snoc h1 (.leaf _ _)
    · exact I.ins e (by simp [he])
  · have := I.dep
    simp only [depOk, dpts_append, dpts, dpt] at this ⊢
    exact ⟨by omega, this.2⟩
  · intro e he
    rcases List.mem_cons.mp he with rfl | he
    · have h1 := I.ok (aL, vs ++ [.str y t0], n, ts'' ++ [.leaf y]) (by simp)
      simp only [okTs_append, okTs, okT, Bool.and_true, all_append_str] at h1 ⊢
      rw [hc.2, Bool.and_true]; exact h1
    · exact I.ok e (by simp [he])
  · have := I.sz
    have := hc.1
    simp only [total, szs, szs_append, szT, Str.length_append] at *
    omega
theorem Inv.last_str {y : Str} {t0 : Tok} {vs0 : List Value} (I : Inv a0 i (led aB nB ((aL, vs0 ++ [.str y t0], n, ts) :: σr) cl) aB nB ((aL, vs0 ++ [.str y t0], n, ts) :: σr) cl) : y.length ≤ 4 * i := by
  obtain ⟨ts'', t, rfl, h1, h2⟩ := (I.ins (aL, vs0 ++ [.str y t0], n, ts) (by simp)).unsnoc
  cases h2
  have := I.sz
  simp only [total, szs, szs_append, szT] at *
  omega
theorem Inv.last_is {v : Value} {vs0 : List Value} (I : Inv a0 i (led aB nB ((aL, vs0 ++ [v], n, ts) :: σr) cl) aB nB ((aL, vs0 ++ [v], n, ts) :: σr) cl) : (∃ y t0, v = .str y t0) ∨ ∃ b o n', v = .ref b ∧ (b, listObj o n') ∈ cl := by
  obtain ⟨ts'', t, rfl, h1, h2⟩ := (I.ins (aL, vs0 ++ [v], n, ts) (by simp)).unsnoc
  cases h2 with
  | leaf x t => exact .inl ⟨x, t, rfl⟩
  | node h r => exact .inr ⟨_, _, _, rfl, h⟩
end
theorem close {a0 : Addr} : ∀ (r : List Ent) (aL : Addr) (vs : List Value) (n : Nat) (ts : List Tr) (cl : List (Addr × Obj)), ((aL, vs, n, ts) :: r).getLast?.map (·.1) = some a0 → (∀ e ∈ (aL, vs, n, ts) :: r, InAll cl e.2.1 e.2.2.2) → depOk ((aL, vs, n, ts) :: r) → (∀ e ∈ (aL, vs, n, ts) :: r, okTs e.2.2.2 = true) →
    ∃ n' vs' ts' cl', (a0, listObj vs' n') ∈ ents [] ((aL, vs, n, ts) :: r) ++ cl ∧ (∀ p ∈ cl', p ∈ ents [] ((aL, vs, n, ts) :: r) ++ cl) ∧ InAll cl' vs' ts' ∧ okTs ts' = true ∧ dpts ts' ≤ 2 ∧ szs ts' + 1 = total ((aL, vs, n, ts) :: r)
  | [], aL, vs, n, ts, cl, ht, hi, hd, ho => by
    have : aL = a0 := by simpa using ht
    subst this
    refine ⟨n, vs, ts, cl, by simp [ents], fun p hp => List.mem_append_right _ hp, hi _ (List.mem_cons_self ..), ho _ (List.mem_cons_self ..), ?_, by simp [total]⟩
    simpa [depOk] using hd
  | (a1, vs1, n1, ts1) :: r, aL, vs, n, ts, cl, ht, hi, hd, ho => by
    have hmono : ∀ p ∈ cl, p ∈ (aL, listObj vs n) :: cl := fun p hp => List.mem_cons_of_mem _ hp
    have h1 := hi (aL, vs, n, ts) (by simp)
    have h2 := hi (a1, vs1, n1, ts1) (by simp)
    have o1 := ho (aL, vs, n, ts) (by simp)
    have o2 := ho (a1, vs1, n1, ts1) (by simp)
    simp only [depOk, List.length_cons] at hd
    obtain ⟨n', vs', ts', cl', m1, m2, h3, h4, h5, h6⟩ := close (a0 := a0) r a1 (vs1 ++ [.ref aL]) n1 (ts1 ++ [.node ts]) ((aL, listObj vs n) :: cl) (by cases r <;> simpa using ht)
      (by
        intro e he
        rcases List.mem_cons.mp he with rfl | he
        · exact InAll.snoc (h2.mono hmono) (.node (List.mem_cons_self ..) (h1.mono hmono))
        · exact (hi e (by simp [he])).mono hmono)
      (by simp only [depOk, List.length_cons, dpts_append, dpts, dpt]; exact ⟨by omega, hd.2.2⟩)
      (by
        intro e he
        rcases List.mem_cons.mp he with rfl | he
        · simp only [okTs_append, okTs, okT] at o1 o2 ⊢
          rw [o1, o2]; rfl
        · exact ho e (by simp [he]))
    have hsub : ∀ p ∈ ents [] ((a1, vs1 ++ [.ref aL], n1, ts1 ++ [.node ts]) :: r) ++ (aL, listObj vs n) :: cl, p ∈ ents [] ((aL, vs, n, ts) :: (a1, vs1, n1, ts1) :: r) ++ cl := by
      intro p hp
      simp only [ents, List.append_nil, List.cons_append, List.mem_cons, List.mem_append] at hp ⊢
      grind
    refine ⟨n', vs', ts', cl', hsub _ m1, fun p hp => hsub p (m2 p hp), h3, h4, h5, ?_⟩
    rw [h6]
    simp only [total, szs, szs_append, szT]
    omega
end Mine
end

section
open PySem PySem.W PyProof.Rows PySem.Calls
namespace Mine
theorem kindA {k : Int} (h : ([0, 13].any fun x => x == k) = true) (h' : ([0, 1, 2, 13, 14].any fun x => x == k) = false) : False := by
  simp at h h'
  omega
theorem kindB {k : Int} (h : ([1, 14].any fun x => x == k) = true) (h' : ([0, 1, 2, 13, 14].any fun x => x == k) = false) : False := by
  simp at h h'
  omega
theorem nil_or_snoc (l : List Value) : l = [] ∨ ∃ r v, l = r ++ [v] := by
  rcases List.eq_nil_or_concat l with rfl | ⟨r, v, rfl⟩
  · exact .inl rfl
  · exact .inr ⟨r, v, by simp⟩
theorem okS_app {c : Str} (h : okS c) : okS (Str.ofString "" ++ c) := by
  refine ⟨?_, ?_⟩
  · rw [Str.length_append]
    have : (Str.ofString "").length = 0 := by decide +kernel
    have := h.1
    omega
  · rw [all_append_str, h.2]
    decide +kernel
theorem isList_isi {prog : Program} {w : World} {A : Around} {E : Value → Shared → Prop} {s : Shared} {a : Addr} {xs : Array Value} {Q : Value → Shared → Prop} (hl : s.heap.IsList a xs) (h : Q (.bool true) s) :
    wpAny (model prog w) A (call (.builtin "isinstance") [.ref a, .type "list"]) Q E s := by
  obtain ⟨o, h1, h2, _⟩ := hl
  exact IsiPair.list_list h1 h2 h
theorem okS_nil : okS (Str.ofString "") := ⟨by decide +kernel, by decide +kernel⟩
theorem allLt_ne {d : Addr} : ∀ {r : List (Addr × Obj)}, AllLt d r → ∀ p ∈ r, p.1 ≠ d
  | [], _, _, hp => nomatch hp
  | _ :: _, h, p, hp => by
    rcases List.mem_cons.mp hp with rfl | hp
    · exact Nat.ne_of_lt h.1
    · exact allLt_ne h.2 p hp
theorem News.sub {h₀ h : Heap} {L : Addr} {a b : List (Addr × Obj)} (N : News h₀ L h a) (hs : ∀ p ∈ b, p ∈ a) : News h₀ L h b := fun p hp => N p (hs p hp)
local macro_rules | `(tactic| k_all) => `(tactic| assumption)
local macro_rules | `(tactic| walk_at "subscriptTail") => `(tactic| ((with_reducible show wpAny _ _ (subscriptTail _ _ (Value.ref _) (Value.int _ _)) _ _ _); (refine itemLast (News.isList (by assumption) (by k_mem)) ?hz ?_; (case hz => (first | omega | (simp only [List.length_nil] at *; omega))))))
local macro_rules | `(tactic| walk_at "call builtin:len") => `(tactic| (refine lenOf (News.isList (by assumption) (by k_mem)) ?hz ?_; (case hz => (first | omega | (simp only [List.length_append, List.length_cons, List.length_nil] at *; omega))); intro tL kL))
local macro_rules | `(tactic| walk_at "call builtin:isinstance") => `(tactic| (refine isList_isi (by assumption) ?_))
local macro_rules | `(tactic| walk_at "call builtin:list.append") => `(tactic| (refine appendU (by assumption) (by assumption) (by k_upd) ?hz ?_; (case hz => (first | omega | (simp only [List.length_append, List.length_cons, List.length_nil] at *; omega))); intro hA FA NA))
local macro_rules | `(tactic| walk_at "call builtin:list.pop") => `(tactic| (refine popU (by assumption) (by assumption) (by k_upd) ?hz ?_; (case hz => (first | omega | (simp only [List.length_append, List.length_cons, List.length_nil] at *; omega))); intro hA FA NA))
local macro_rules | `(tactic| walk_at "setItem ref int") => `(tactic| (refine setLastU (by assumption) (by assumption) (by k_upd) ?hz ?_; (case hz => (first | omega | (simp only [List.length_append, List.length_cons, List.length_nil] at *; omega))); intro hA FA NA))
local macro_rules | `(tactic| walk_at "compareOp Eq ref ref") => `(tactic| (refine eqNil (News.isList (by assumption) (by k_mem)) (News.isList (by assumption) (by k_mem)) ?hz ?_; (case hz => assumption)))
local macro_rules | `(tactic| walk_at "binaryOp Add str str") => `(tactic| (refine add_str ?_ ?hsz; (case hsz => (simp only [Str.length_append, sizeLine_eq]; omega)); intro tB kB))
local macro_rules | `(tactic| walk_at "call ref") => `(tactic| ((with_reducible show wpAny _ _ (call (Value.ref 65) _) _ _ _); (refine sign_spec _ _ (Frag.In.keeps (by assumption) (Fr.keep (by assumption))) (top45 (by assumption) (fun b o _ e => Fr.keep (by assumption) b o e)) (by assumption) ?s2 ?s3 (And.left (by assumption)) (And.right (by assumption)) (And.left (by assumption)) (And.left (And.right (by assumption))) (And.right (And.right (by assumption))) ?_; (case s2 => assumption); (case s3 => assumption); intro rS hS tS tS' hokS hkS; have FS := Fr.more (by assumption) hkS; have NS := News.more (by assumption) hkS; have hlS := hokS.1)))
set_option maxRecDepth 100000 in
set_option maxHeartbeats 4000000 in
theorem tree_spec {w : World} {mg mb : Str → Option Value} {A : Around} {s : Shared} {l : Addr} {vs : List Value} {ns : List Int} {Q E : Value → Shared → Prop}
   (X : (hd.heap_39 w.params).In s.heap) (T : TopRead hd.view_39 LO mg mb s.heap) (hh : A.handled = none) (hdp : A.depth + 3 < recursionLimit) (hu : A.units + 20 < cLine)
   (hl : s.heap.IsList l vs.toArray) (hi : IntsAre vs ns) (hn : ns.length ≤ 8) (hr : ∀ x ∈ ns, 0 ≤ x ∧ x < 17793024)
   (hQ : ∀ h' tk a ts, At h' [] (.ref a) (.node ts) → okTs ts = true → dpts ts ≤ 2 → szs ts + 1 ≤ 33 → (∀ b o, s.heap.get? b = some o → h'.get? b = some o) → Q (.ref a) { s with heap := h', toks := tk }) :
   wpAny (model Challenge.rw_mj0033_01.row.prog w) A (call (.ref 72) [.ref l]) Q E s := by
  revert X; k_fill; intro X
  refine wpAny_call ?_
  refine' enterK (binds := [(Str.ofString "numbers", .ref l)]) X T.nolimit ?k6 ?k7 (by omega) ?k9 ?kB ?_ ?c2 ?c3 ?c4 ?c5
  (case k6 => k_is)
  (case k7 => k_is)
  (case k9 => exact BindsTo.of_eq rfl)
  (case kB => exact locs rfl)
  (case c2 => exact rfl)
  (case c3 => exact rfl)
  (case c4 => exact rfl)
  (case c5 => decide)
  intro L h₁ F N X
  (try k_fold)
  repeat' (first
    | ((fail_if_success (with_reducible show wpAny _ _ (exec (Stmt.For _ _ _ _ _) _) _ _ _)); (first | (k_unfold; (try dsimp only)) | walk1 | (dsimp only; walk1)))
    | fail "no step")
  rename_i tk0 a0 h1' l1t aB h2' hlt h3' h' F' N'
  refine For_invV s.heap rfl rfl ?_
  walk1
  refine iter_invT (fun i m news => ∃ u aB nB σ cl, m = mapOf u aB a0 l ∧ Inv a0 i news aB nB σ cl) hh hl hi F' N' ⟨fun _ => none, aB, 0, [(a0, [], 0, [])], [], mapOf_start aB a0 l, ?_⟩ ?_ ?_
  · exact ⟨rfl, by simp; exact Nat.ne_of_gt hlt, by simp, rfl, by simp, by simp; exact .nil, by simp [depOk, dpts], by simp [okTs], by simp [total, szs]⟩
  · rintro i x t m₁ news₁ h₂ tk₂ own Qn hx hsep ⟨u, aB, nB, σ, cl, rfl, I⟩ F₁ N₁ hQn
    cases σ with
    | nil => exact absurd rfl I.ne
    | cons e σr =>
    obtain ⟨aL, vs', n, ts⟩ := e
    have hx2 := hr x (List.mem_of_getElem? hx)
    obtain rfl : news₁ = led aB nB ((aL, vs', n, ts) :: σr) cl := I.eq
    have nd := I.nd
    simp only [ents, List.append_nil, List.cons_append, List.map_cons, List.nodup_cons, List.mem_cons, not_or] at nd
    have hRB : ∀ p ∈ (ents [.ref aL] σr ++ cl) ++ own, p.1 ≠ aB := by
      intro p hp
      rcases List.mem_append.mp hp with hp | hp
      · exact fun e => nd.1.2 (List.mem_map.mpr ⟨p, hp, e⟩)
      · exact hsep p hp _ (List.mem_cons_self ..)
    have hRL : ∀ p ∈ (ents [.ref aL] σr ++ cl) ++ own, p.1 ≠ aL := by
      intro p hp
      rcases List.mem_append.mp hp with hp | hp
      · exact fun e => nd.2.1 (List.mem_map.mpr ⟨p, hp, e⟩)
      · exact hsep p hp (aL, listObj (vs' ++ []) n) (by simp only [led, ents, List.cons_append]; exact List.mem_cons_of_mem _ (List.mem_cons_self ..))
    have hBL : aB ≠ aL := nd.1.1
    have hLB : aL ≠ aB := fun e => hBL e.symm
    have hoR : ∀ p ∈ own, ∀ q ∈ ents [.ref aL] σr ++ cl, p.1 ≠ q.1 := fun p hp q hq => hsep p hp q (by simp only [led, ents, List.cons_append]; exact List.mem_cons_of_mem _ (List.mem_cons_of_mem _ hq))
    replace F₁ : Fr s.heap L h₂ (fun y => if y = Str.ofString "x" then some (Value.int x t) else mapOf u aB a0 l y) := F₁
    replace N₁ : News s.heap L h₂ _ := N₁
    replace hQn : ∀ h' tk' m' nx, Fr s.heap L h' m' → News s.heap L h' (nx ++ own) → (∀ p ∈ own, ∀ q ∈ nx, p.1 ≠ q.1) → (∃ u aB nB σ cl, m' = mapOf u aB a0 l ∧ Inv a0 (i + 1) nx aB nB σ cl) → Qn .next { s with heap := h', toks := tk' } := hQn
    have hOpen : ∀ h' tk' m' a' nB' n', σr.length ≤ 1 → a' ≠ aB → a' ≠ aL → (∀ p ∈ (ents [.ref aL] σr ++ cl) ++ own, p.1 ≠ a') → (∃ u', m' = mapOf u' aB a0 l) → Fr s.heap L h' m' →
        News s.heap L h' ((aB, listObj ((refsOf σr ++ [.ref aL]) ++ [.ref a']) nB') :: (aL, listObj (vs' ++ [.ref a']) n') :: (a', listObj [] 0) :: ((ents [.ref aL] σr ++ cl) ++ own)) → Qn .next { s with heap := h', toks := tk' } := by
      intro h' tk' m' a' nB' n' c1 c2 c3 c4 ⟨u', hu'⟩ F' N'
      refine hQn h' tk' m' (led aB nB' ((a', [], 0, []) :: (aL, vs', n', ts) :: σr) cl) F' (fun p hp => N' p ?_) ?_ ⟨u', aB, nB', _, cl, hu', I.opened c1 c2 c3 fun p hp => c4 p (List.mem_append_left _ hp)⟩
      · simp only [led, refsOf_cons, ents, List.append_nil, List.cons_append, List.mem_cons, List.mem_append] at hp ⊢
        grind
      · intro p hp q hq
        simp only [led, ents, List.cons_append, List.mem_cons] at hq
        rcases hq with rfl | rfl | rfl | hq
        · exact hRB p (List.mem_append_right _ hp)
        · exact c4 p (List.mem_append_right _ hp)
        · exact hRL p (List.mem_append_right _ hp)
        · exact hoR p hp q hq
    have hPop : ∀ h' tk' m' nB', σr.length ≠ 0 → (∃ u', m' = mapOf u' aB a0 l) → Fr s.heap L h' m' →
        News s.heap L h' ((aB, listObj (refsOf σr) nB') :: (aL, listObj vs' n) :: ((ents [.ref aL] σr ++ cl) ++ own)) → Qn .next { s with heap := h', toks := tk' } := by
      intro h' tk' m' nB' c1 ⟨u', hu'⟩ F' N'
      cases σr with
      | nil => exact absurd rfl c1
      | cons e σr =>
      obtain ⟨a1, vs1, n1, ts1⟩ := e
      refine hQn h' tk' m' _ F' (fun p hp => N' p ?_) ?_ ⟨u', aB, nB', _, _, hu', I.popped⟩
      · simp only [led, refsOf_cons, ents, List.append_nil, List.cons_append, List.mem_cons, List.mem_append] at hp ⊢
        grind
      · intro p hp q hq
        simp only [led, ents, List.append_nil, List.cons_append, List.mem_cons, List.mem_append] at hq hoR
        rcases hq with rfl | rfl | hq | rfl | hq
        · exact hRB p (List.mem_append_right _ hp)
        · exact hoR p hp _ (.inl rfl)
        · exact hoR p hp q (.inr (.inl hq))
        · exact hRL p (List.mem_append_right _ hp)
        · exact hoR p hp q (.inr (.inr hq))
    have hLeaf : ∀ h' tk' m' n' vs₂, (∃ ts₂, Inv a0 (i + 1) (led aB nB ((aL, vs₂, n', ts₂) :: σr) cl) aB nB ((aL, vs₂, n', ts₂) :: σr) cl) → (∃ u', m' = mapOf u' aB a0 l) → Fr s.heap L h' m' →
        News s.heap L h' ((aB, listObj (refsOf σr ++ [.ref aL]) nB) :: (aL, listObj vs₂ n') :: ((ents [.ref aL] σr ++ cl) ++ own)) → Qn .next { s with heap := h', toks := tk' } := by
      intro h' tk' m' n' vs₂ ⟨ts₂, I'⟩ ⟨u', hu'⟩ F' N'
      refine hQn h' tk' m' _ F' (fun p hp => N' p ?_) ?_ ⟨u', aB, nB, _, cl, hu', I'⟩
      · simp only [led, refsOf_cons, ents, List.append_nil, List.cons_append, List.mem_cons, List.mem_append] at hp ⊢
        grind
      · intro p hp q hq
        simp only [led, ents, List.cons_append, List.mem_cons] at hq
        rcases hq with rfl | rfl | hq
        · exact hRB p (List.mem_append_right _ hp)
        · exact hRL p (List.mem_append_right _ hp)
        · exact hoR p hp q hq
    clear hQn hoR nd
    simp only [led, refsOf_cons, ents, List.append_nil, List.cons_append] at N₁
    have hpl := refsOf_len σr
    have hle' : σr.length ≤ 2 := by simpa using I.le
    have hi8 : i < 8 := by
      have := (List.getElem?_eq_some_iff.mp hx).1
      omega
    have hvl : vs'.length ≤ 100 := by
      rw [(I.ins _ (List.mem_cons_self ..)).length]
      have := len_le_szs ts
      have := I.sz
      simp only [total] at *
      omega
    have hu0 : A.units + 3 < cLine := by omega
    have hu10 : A.units + 3 + 10 < cLine := by omega
    have hd1 : A.depth + 1 < recursionLimit := by omega
    generalize hRR : (ents [.ref aL] σr ++ cl) ++ own = RR at *
    generalize hpre : refsOf σr = pre at *
    unfold mapOf at F₁
    clear N' F'
    repeat' (first
      | ((fail_if_success (with_reducible show wpAny _ _ (compareOp CmpOp.Eq (Value.ref _) (Value.ref _)) _ _ _)); (first | (k_unfold; (try dsimp only)) | walk1 | (dsimp only; walk1)))
      | fail "no step")
    focus (refine' hOpen _ _ _ _ _ _ ?c1 ?c2 ?c3 ?c4 ?c5 (by assumption) (News.sub (by assumption) ?mem); (case mem => (refine List.forall_mem_cons.mpr ⟨by k_mem, List.forall_mem_cons.mpr ⟨by k_mem, List.forall_mem_cons.mpr ⟨by k_mem, fun p hp => List.mem_cons_of_mem _ (List.mem_cons_of_mem _ (List.mem_cons_of_mem _ (List.mem_cons_of_mem _ hp)))⟩⟩⟩)); (case c1 => (simp only [List.length_append, List.length_singleton] at *; omega)); (case c2 => k_ne); (case c3 => k_ne); (case c4 => exact allLt_ne (And.right (And.right (And.right (by assumption))))); (case c5 => exact mapOf_upd _ _ _ _ _ _ _))
    focus (refine' hPop _ _ _ _ ?c1 ?c5 (by assumption) (News.sub (by assumption) ?mem); (case mem => (refine List.forall_mem_cons.mpr ⟨by k_mem, List.forall_mem_cons.mpr ⟨by k_mem, fun p hp => by simp only [List.mem_cons]; grind⟩⟩)); (case c1 => (simp only [List.length_append, List.length_singleton] at *; omega)); (case c5 => exact mapOf_upd _ _ _ _ _ _ _))
    focus (refine' hLeaf _ _ _ _ _ ?c1 ?c5 (by assumption) (News.sub (by assumption) ?mem); (case mem => (refine List.forall_mem_cons.mpr ⟨by k_mem, List.forall_mem_cons.mpr ⟨by k_mem, fun p hp => by simp only [List.mem_cons]; grind⟩⟩)); (case c1 => exact ⟨_, I.pushed okS_nil⟩); (case c5 => exact mapOf_upd _ _ _ _ _ _ _))
    focus (exact (kindA (by assumption) (by assumption)).elim)
    focus (refine' hPop _ _ _ _ ?c1 ?c5 (by assumption) (News.sub (by assumption) ?mem); (case mem => (refine List.forall_mem_cons.mpr ⟨by k_mem, List.forall_mem_cons.mpr ⟨by k_mem, fun p hp => by simp only [List.mem_cons]; grind⟩⟩)); (case c1 => (simp only [List.length_append, List.length_singleton] at *; omega)); (case c5 => exact mapOf_upd _ _ _ _ _ _ _))
    focus (refine' hLeaf _ _ _ _ _ ?c1 ?c5 (by assumption) (News.sub (by assumption) ?mem); (case mem => (refine List.forall_mem_cons.mpr ⟨by k_mem, List.forall_mem_cons.mpr ⟨by k_mem, fun p hp => by simp only [List.mem_cons]; grind⟩⟩)); (case c1 => exact ⟨_, I.pushed okS_nil⟩); (case c5 => exact mapOf_upd _ _ _ _ _ _ _))
    focus (exact (kindB (by assumption) (by assumption)).elim)
    focus (refine' hLeaf _ _ _ _ _ ?c1 ?c5 (by assumption) (News.sub (by assumption) ?mem); (case mem => (refine List.forall_mem_cons.mpr ⟨by k_mem, List.forall_mem_cons.mpr ⟨by k_mem, fun p hp => by simp only [List.mem_cons]; grind⟩⟩)); (case c1 => exact ⟨_, I.pushed okS_nil⟩); (case c5 => exact mapOf_upd _ _ _ _ _ _ _))
    have hk := kind_out (k := x.fmod 16) (by rw [Int.fmod_eq_emod_of_nonneg _ (by decide)]; omega) (by assumption)
    rcases nil_or_snoc vs' with rfl | ⟨vs'', v, rfl⟩
    · (refine eqNil (News.isList (by assumption) (by k_mem)) (News.isList (by assumption) (by k_mem)) hu0 ?_)
      repeat' (first | (k_unfold; (try dsimp only)) | walk1 | (dsimp only; walk1) | fail "no step")
      refine' hLeaf _ _ _ _ _ ?c1 ?c5 (by assumption) (News.sub (by assumption) ?mem)
      (case mem => (refine List.forall_mem_cons.mpr ⟨by k_mem, List.forall_mem_cons.mpr ⟨by k_mem, fun p hp => by simp only [List.mem_cons]; grind⟩⟩))
      (case c1 => exact ⟨_, I.pushed (okS_app ‹_›)⟩)
      (case c5 => exact mapOf_upd _ _ _ _ _ _ _)
    · have hvl2 : vs''.length ≤ 100 := by simp only [List.length_append, List.length_cons, List.length_nil] at hvl; omega
      have e0 : decide ((vs'' ++ [v]).length = 0) = false := by simp
      (refine eqNil (News.isList (by assumption) (by k_mem)) (News.isList (by assumption) (by k_mem)) hu0 ?_)
      rw [e0]
      rcases I.last_is with ⟨y, t0, rfl⟩ | ⟨b, o, n', rfl, hb⟩
      · have hyl := I.last_str
        repeat' (first | (k_unfold; (try dsimp only)) | walk1 | (dsimp only; walk1) | fail "no step")
        refine' hLeaf _ _ _ _ _ ?c1 ?c5 (by assumption) (News.sub (by assumption) ?mem)
        (case mem => (refine List.forall_mem_cons.mpr ⟨by k_mem, List.forall_mem_cons.mpr ⟨by k_mem, fun p hp => by simp only [List.mem_cons]; grind⟩⟩))
        (case c1 => exact I.seted ‹_›)
        (case c5 => exact mapOf_upd _ _ _ _ _ _ _)
      · have hb' := News.isList (N := by assumption) (a := b) (items := o.toArray) (n := n') (by (repeat apply List.mem_cons_of_mem); rw [← hRR]; exact List.mem_append_left _ (List.mem_append_right _ hb))
        repeat' (first | (k_unfold; (try dsimp only)) | walk1 | (dsimp only; walk1) | fail "no step")
        refine' hLeaf _ _ _ _ _ ?c1 ?c5 (by assumption) (News.sub (by assumption) ?mem)
        (case mem => (refine List.forall_mem_cons.mpr ⟨by k_mem, List.forall_mem_cons.mpr ⟨by k_mem, fun p hp => by simp only [List.mem_cons]; grind⟩⟩))
        (case c1 => exact ⟨_, I.pushed (okS_app ‹_›)⟩)
        (case c5 => exact mapOf_upd _ _ _ _ _ _ _)
  · rintro m₁ news₁ h₂ tk₂ ⟨u, aB, nB, σ, cl, rfl, I⟩ F₁ N₁
    cases σ with
    | nil => exact absurd rfl I.ne
    | cons e σr =>
    obtain ⟨aL, vs', n, ts⟩ := e
    obtain rfl : news₁ = led aB nB ((aL, vs', n, ts) :: σr) cl := I.eq
    obtain ⟨n', vs₂, ts', cl', m1, m2, i3, i4, i5, i6⟩ := close σr aL vs' n ts cl I.top I.ins I.dep I.ok
    have hsz := I.sz
    have hAt : At h₂ [] (.ref a0) (.node ts') := InL.at (cl := (a0, listObj vs₂ n') :: cl') (fun p hp => (N₁ p (by rcases List.mem_cons.mp hp with rfl | hp; exact List.mem_cons_of_mem _ m1; exact List.mem_cons_of_mem _ (m2 p hp))).1)
      (.node (List.mem_cons_self ..) (i3.mono fun p hp => List.mem_cons_of_mem _ hp))
    unfold mapOf at F₁
    clear N' F'
    repeat' (first | (k_unfold; (try dsimp only)) | walk1 | (dsimp only; walk1) | fail "no step")
    exact hQ _ _ _ _ hAt i4 i5 (by omega) F₁.keep
end Mine
end

section
open PySem
namespace Mine

inductive Rep (p new : List Nat) : List Nat → List Nat → Prop where
  | nil : Rep p new [] []
  | hit {y z : List Nat} : Rep p new y z → Rep p new (p ++ y) (new ++ z)
  | skip {c : Nat} {y z : List Nat} : ¬ p <+: (c :: y) → Rep p new y z → Rep p new (c :: y) (c :: z)
theorem Rep.det {p new : List Nat} (hp : p ≠ []) {x z : List Nat} (h : Rep p new x z) : ∀ {z'}, Rep p new x z' → z = z' := by
  induction h with
  | nil =>
    intro z' h'
    generalize e : ([] : List Nat) = x at h'
    cases h' with
    | nil => rfl
    | hit h => cases p with
      | nil => exact absurd rfl hp
      | cons a r => simp at e
    | skip _ _ => cases e
  | @hit y z _ ih =>
    intro z' h'
    generalize e : p ++ y = x at h'
    cases h' with
    | nil => cases p with
      | nil => exact absurd rfl hp
      | cons a r => simp at e
    | hit h => rw [ih (List.append_cancel_left e ▸ h)]
    | skip hn _ => exact absurd ⟨y, e⟩ hn
  | @skip c y z hn _ ih =>
    intro z' h'
    generalize e : c :: y = x at h'
    cases h' with
    | nil => cases e
    | hit h => exact absurd ⟨_, e.symm⟩ hn
    | skip _ h => cases e; rw [ih h]
theorem Rep.skipn {p new X z : List Nat} : ∀ (n a : Nat), a + n ≤ X.length → (∀ k, a ≤ k → k < a + n → ¬ p <+: X.drop k) → Rep p new (X.drop (a + n)) z → Rep p new (X.drop a) ((X.drop a).take n ++ z)
  | 0, a, _, _, h => by simpa using h
  | n + 1, a, hl, hn, h => by
    have hlt : a < X.length := by omega
    have e := List.drop_eq_getElem_cons hlt
    have ih := Rep.skipn n (a + 1) (by omega) (fun k h1 h2 => hn k (by omega) (by omega)) (by rw [show a + 1 + n = a + (n + 1) by omega]; exact h)
    have h0 := hn a (Nat.le_refl _) (by omega)
    rw [e] at h0 ⊢
    exact .skip h0 ih

noncomputable def tl : Nat → List Nat
  | 0 => []
  | n + 1 => 34 :: 39 :: tl n
theorem tl_add (a b : Nat) : tl (a + b) = tl a ++ tl b := by
  induction a with
  | zero => simp [tl]
  | succ a ih => rw [show a + 1 + b = (a + b) + 1 by omega]; simp [tl, ih]
noncomputable def NotDQ (Y : List Nat) : Prop := ∀ Y', Y ≠ 34 :: 39 :: Y'
theorem tl_prefix {N : Nat} {Y : List Nat} (hY : NotDQ Y) : ∀ {r : Nat}, r < N → ¬ tl N <+: tl r ++ Y
  | 0, h, ⟨t, ht⟩ => by
    obtain ⟨M, rfl⟩ : ∃ M, N = M + 1 := ⟨N - 1, by omega⟩
    exact hY _ (by simpa [tl] using ht.symm)
  | r + 1, h, hp => by
    obtain ⟨M, rfl⟩ : ∃ M, N = M + 1 := ⟨N - 1, by omega⟩
    refine tl_prefix (N := M) hY (r := r) (by omega) ?_
    simp only [tl, List.cons_append, List.cons_prefix_cons, true_and] at hp
    exact hp
theorem run_small {N : Nat} {new Y Z : List Nat} (hY : NotDQ Y) (h : Rep (39 :: tl N) new Y Z) : ∀ r, r < N → Rep (39 :: tl N) new (39 :: tl r ++ Y) (39 :: tl r ++ Z)
  | 0, hr => .skip (fun hp => tl_prefix (N := N) (r := 0) hY hr (by simpa using hp)) h
  | r + 1, hr => by
    refine .skip (fun hp => tl_prefix (N := N) (r := r + 1) hY hr (by simpa using hp)) ?_
    show Rep _ _ (34 :: (39 :: tl r ++ Y)) (34 :: (39 :: tl r ++ Z))
    exact .skip (by simp) (run_small hY h r (by omega))
noncomputable def wov : List Nat → List Nat
  | [] => []
  | [a] => [a]
  | a :: b :: r => a :: 34 :: wov (b :: r)
theorem wov_cons (a : Nat) {A : List Nat} (h : A ≠ []) : wov (a :: A) = a :: 34 :: wov A := by
  cases A with
  | nil => exact absurd rfl h
  | cons b r => rfl
theorem wov_run (n : Nat) : wov (List.replicate (n + 1) 39) = 39 :: tl n := by
  induction n with
  | zero => rfl
  | succ n ih => rw [List.replicate_succ, wov_cons _ (by simp), ih]; rfl
theorem wov_run' {n : Nat} (h : n ≠ 0) : wov (List.replicate n 39) = 39 :: tl (n - 1) := by
  obtain ⟨m, rfl⟩ : ∃ m, n = m + 1 := ⟨n - 1, by omega⟩
  exact wov_run m
theorem run_all {N m : Nat} {Y Z : List Nat} (hY : NotDQ Y) (h : Rep (39 :: tl N) [m] Y Z) {b : Nat} (hb : b ≤ N) : ∀ a, Rep (39 :: tl N) [m] (wov (List.replicate ((N + 1) * a + b) 39) ++ Y) (wov (List.replicate a m ++ List.replicate b 39) ++ Z)
  | 0 => by
    simp only [Nat.mul_zero, Nat.zero_add, List.replicate_zero, List.nil_append]
    by_cases h0 : b = 0
    · subst h0; simpa [wov] using h
    · rw [wov_run' h0]
      exact run_small hY h (b - 1) (by omega)
  | a + 1 => by
    by_cases h0 : (N + 1) * a + b = 0
    · have hb0 : b = 0 := by omega
      have ha0 : a = 0 := by
        cases a with
        | zero => rfl
        | succ a => exact absurd h0 (by rw [Nat.mul_succ]; omega)
      subst hb0 ha0
      have e : (N + 1) * (0 + 1) + 0 = N + 1 := by omega
      rw [e, wov_run]
      exact Rep.hit h
    · have ih := run_all hY h hb a
      have e : (N + 1) * (a + 1) + b = (N + 1) + ((N + 1) * a + b) := by rw [Nat.mul_succ]; omega
      have h1 : wov (List.replicate ((N + 1) * (a + 1) + b) 39) = (39 :: tl N) ++ 34 :: wov (List.replicate ((N + 1) * a + b) 39) := by
        rw [e, wov_run' (by omega), wov_run' h0, show N + 1 + ((N + 1) * a + b) - 1 = N + (((N + 1) * a + b - 1) + 1) by omega, tl_add]
        rfl
      have h2 : List.replicate a m ++ List.replicate b 39 ≠ [] := by
        intro he
        have := congrArg List.length he
        simp at this
        rw [this.1, this.2] at h0
        simp at h0
      have h3 : wov (List.replicate (a + 1) m ++ List.replicate b 39) = m :: 34 :: wov (List.replicate a m ++ List.replicate b 39) := by
        rw [List.replicate_succ, List.cons_append]; exact wov_cons _ h2
      rw [h1, h3, List.append_assoc]
      show Rep _ _ _ ([m] ++ (34 :: (wov _ ++ Z)))
      exact Rep.hit (.skip (by simp) ih)
theorem run_hd {N m : Nat} {A C Y Z : List Nat} (hac : A = [] ↔ C = []) (h : Rep (39 :: tl N) [m] (wov A ++ Y) (wov C ++ Z)) : ∀ hd : List Nat, (∀ c ∈ hd, c ≠ 39) → Rep (39 :: tl N) [m] (wov (hd ++ A) ++ Y) (wov (hd ++ C) ++ Z)
  | [], _ => h
  | c :: hd, hc => by
    have ih := run_hd hac h hd fun x hx => hc x (List.mem_cons_of_mem _ hx)
    have hne := hc c (List.mem_cons_self ..)
    have hsk : ∀ y, ¬ (39 :: tl N) <+: c :: y := fun y hp => hne (by simpa using (List.cons_prefix_cons.mp hp).1.symm)
    by_cases h0 : hd ++ A = []
    · have h1 : hd = [] ∧ A = [] := by simpa using h0
      have h2 : C = [] := hac.mp h1.2
      rw [h1.1, h1.2, h2] at ih ⊢
      exact .skip (hsk _) ih
    · have h1 : hd ++ C ≠ [] := by
        intro he
        simp at he h0
        exact h0 he.1 (hac.mpr he.2)
      rw [List.cons_append, List.cons_append, wov_cons _ h0, wov_cons _ h1]
      exact .skip (hsk _) (.skip (by simp) ih)

noncomputable def isM (c : Nat) : Bool := decide (48 ≤ c) && decide (c ≤ 51)
inductive Tk where
  | chr (c : Nat)
  | run (n : Nat)
noncomputable def stopAt (p : List Nat) : Prop := ∀ m p', p = 34 :: m :: p' → isM m = false
inductive Ch : Nat → List Nat → Nat → List Nat → Prop where
  | stop {t : Nat} {p : List Nat} : stopAt p → Ch t p t p
  | more {t m n : Nat} {p r : List Nat} : isM m = true → Ch (t + 3 ^ (m - 48)) p n r → Ch t (34 :: m :: p) n r
inductive Par : List Nat → List Tk → Prop where
  | nil : Par [] []
  | chr {c : Nat} {p : List Nat} {ts : List Tk} : isM c = false → Par p ts → Par (c :: p) (.chr c :: ts)
  | run {m n : Nat} {p r : List Nat} {ts : List Tk} : isM m = true → Ch (3 ^ (m - 48)) p n r → Par r ts → Par (m :: p) (.run n :: ts)
noncomputable def text (A : Nat → List Nat) : List Tk → List Nat
  | [] => []
  | .chr c :: r => c :: text A r
  | .run n :: r => wov (A n) ++ text A r
noncomputable def EE (p : List Nat) : List Nat := p.flatMap fun c => if isM c = true then wov (List.replicate (3 ^ (c - 48)) 39) else [c]
theorem run_glue {a b : Nat} (ha : a ≠ 0) (hb : b ≠ 0) : wov (List.replicate a 39) ++ 34 :: wov (List.replicate b 39) = wov (List.replicate (a + b) 39) := by
  rw [wov_run' ha, wov_run' hb, wov_run' (by omega), show a + b - 1 = (a - 1) + ((b - 1) + 1) by omega, tl_add]
  rfl
theorem pow3 (k : Nat) : 3 ^ k ≠ 0 := Nat.pos_iff_ne_zero.mp (Nat.pow_pos (by decide))
theorem Ch.eq {t n : Nat} {p r : List Nat} (h : Ch t p n r) : t ≠ 0 → wov (List.replicate t 39) ++ EE p = wov (List.replicate n 39) ++ EE r ∧ n ≠ 0 ∧ stopAt r ∧ ∀ c ∈ r, c ∈ p := by
  induction h with
  | stop h => exact fun ht => ⟨rfl, ht, h, fun c hc => hc⟩
  | @more t m n p r hm _ ih =>
    intro ht
    obtain ⟨h1, h2, h3, h4⟩ := ih (fun e => ht (Nat.eq_zero_of_add_eq_zero_right e))
    refine ⟨?_, h2, h3, fun c hc => List.mem_cons_of_mem _ (List.mem_cons_of_mem _ (h4 c hc))⟩
    rw [← h1, ← run_glue ht (pow3 _)]
    have : isM 34 = false := by decide
    simp [EE, hm, this]
theorem Par.line {p : List Nat} {ts : List Tk} (h : Par p ts) : EE p = text (fun n => List.replicate n 39) ts := by
  induction h with
  | nil => rfl
  | @chr c p ts hc _ ih => simp only [text, ← ih]; simp [EE, hc]
  | @run m n p r ts hm hch _ ih =>
    simp only [text, ← ih, ← (hch.eq (pow3 _)).1]
    simp [EE, hm]
theorem text_notDQ {A : Nat → List Nat} (hA : ∀ n, n ≠ 0 → ∃ a l, wov (A n) = a :: l ∧ a ≠ 34) {p : List Nat} {ts : List Tk} (h : Par p ts) (hq : ∀ c ∈ p, c ≠ 39) (hs : stopAt p) : NotDQ (text A ts) := by
  intro Y' e
  cases h with
  | nil => cases e
  | @chr c p ts hc h =>
    simp only [text, List.cons.injEq] at e
    obtain ⟨rfl, e⟩ := e
    cases h with
    | nil => cases e
    | @chr c p ts hc' h =>
      simp only [text, List.cons.injEq] at e
      exact hq c (by simp) e.1
    | @run m n p r ts hm hch h =>
      have := hs m p rfl
      rw [hm] at this; cases this
  | @run m n p r ts hm hch h =>
    obtain ⟨a, l, e1, e2⟩ := hA n (hch.eq (pow3 _)).2.1
    simp only [text, e1, List.cons_append, List.cons.injEq] at e
    exact e2 e.1
theorem Par.rep {N k : Nat} {A C : Nat → List Nat} (hA : ∀ n, n ≠ 0 → ∃ a l, wov (A n) = a :: l ∧ a ≠ 34)
    (hr : ∀ n Y Z, n ≠ 0 → NotDQ Y → Rep (39 :: tl N) [k] Y Z → Rep (39 :: tl N) [k] (wov (A n) ++ Y) (wov (C n) ++ Z)) {p : List Nat} {ts : List Tk} (h : Par p ts) : (∀ c ∈ p, c ≠ 39) → Rep (39 :: tl N) [k] (text A ts) (text C ts) := by
  induction h with
  | nil => exact fun _ => .nil
  | @chr c p ts hc _ ih =>
    intro hq
    exact .skip (fun hp => hq c (List.mem_cons_self ..) (List.cons_prefix_cons.mp hp).1.symm) (ih fun x hx => hq x (List.mem_cons_of_mem _ hx))
  | @run m n p r ts hm hch hpar ih =>
    intro hq
    obtain ⟨_, h2, h3, h4⟩ := hch.eq (pow3 _)
    have hq' : ∀ c ∈ r, c ≠ 39 := fun c hc => hq c (List.mem_cons_of_mem _ (h4 c hc))
    exact hr n _ _ h2 (text_notDQ hA hpar hq' h3) (ih hq')
noncomputable def A4 (n : Nat) : List Nat := List.replicate n 39
noncomputable def A3 (n : Nat) : List Nat := List.replicate (n / 27) 51 ++ List.replicate (n % 27) 39
noncomputable def A2 (n : Nat) : List Nat := List.replicate (n / 27) 51 ++ (List.replicate (n % 27 / 9) 50 ++ List.replicate (n % 27 % 9) 39)
noncomputable def A1 (n : Nat) : List Nat := List.replicate (n / 27) 51 ++ (List.replicate (n % 27 / 9) 50 ++ (List.replicate (n % 27 % 9 / 3) 49 ++ List.replicate (n % 27 % 9 % 3) 39))
noncomputable def A0 (n : Nat) : List Nat := List.replicate (n / 27) 51 ++ (List.replicate (n % 27 / 9) 50 ++ (List.replicate (n % 27 % 9 / 3) 49 ++ (List.replicate (n % 27 % 9 % 3) 48)))
theorem wov_head {l : List Nat} (h : l ≠ []) (h34 : 34 ∉ l) : ∃ a r, wov l = a :: r ∧ a ≠ 34 := by
  cases l with
  | nil => exact absurd rfl h
  | cons a r => cases r with
    | nil => exact ⟨a, [], rfl, fun e => h34 (by simp [e])⟩
    | cons b r => exact ⟨a, _, rfl, fun e => h34 (by simp [e])⟩
theorem rep_ne {a b c : Nat} (h : a * b + c ≠ 0) (x y : Nat) : List.replicate b x ++ List.replicate c y ≠ [] := by
  intro e
  have := congrArg List.length e
  simp at this
  rw [this.1, this.2] at h
  simp at h
theorem hA4 (n : Nat) (h : n ≠ 0) : ∃ a l, wov (A4 n) = a :: l ∧ a ≠ 34 := wov_head (by simp [A4, h]) (by simp [A4])
theorem hA3 (n : Nat) (h : n ≠ 0) : ∃ a l, wov (A3 n) = a :: l ∧ a ≠ 34 := wov_head (by intro e; have := congrArg List.length e; simp [A3] at this; omega) (by simp [A3])
theorem hA2 (n : Nat) (h : n ≠ 0) : ∃ a l, wov (A2 n) = a :: l ∧ a ≠ 34 := wov_head (by intro e; have := congrArg List.length e; simp [A2] at this; omega) (by simp [A2])
theorem hA1 (n : Nat) (h : n ≠ 0) : ∃ a l, wov (A1 n) = a :: l ∧ a ≠ 34 := wov_head (by intro e; have := congrArg List.length e; simp [A1] at this; omega) (by simp [A1])
theorem one_run {N m r : Nat} {Y Z : List Nat} (hY : NotDQ Y) (h : Rep (39 :: tl N) [m] Y Z) : Rep (39 :: tl N) [m] (wov (List.replicate r 39) ++ Y) (wov (List.replicate (r / (N + 1)) m ++ List.replicate (r % (N + 1)) 39) ++ Z) := by
  have := run_all hY h (b := r % (N + 1)) (Nat.le_of_lt_succ (Nat.mod_lt _ (by omega))) (r / (N + 1))
  rw [Nat.div_add_mod] at this
  exact this
theorem empty_iff {r N m : Nat} : List.replicate r 39 = [] ↔ List.replicate (r / (N + 1)) m ++ List.replicate (r % (N + 1)) 39 = [] := by
  simp only [List.replicate_eq_nil_iff, List.append_eq_nil_iff]
  constructor
  · rintro rfl; simp
  · rintro ⟨h1, h2⟩
    have := Nat.div_add_mod r (N + 1)
    rw [h1, h2] at this
    omega
theorem step3 {p : List Nat} {ts : List Tk} (h : Par p ts) (hq : ∀ c ∈ p, c ≠ 39) : Rep (39 :: tl 26) [51] (text A4 ts) (text A3 ts) :=
  h.rep hA4 (fun n Y Z _ hY hr => one_run (N := 26) hY hr) hq
theorem step2 {p : List Nat} {ts : List Tk} (h : Par p ts) (hq : ∀ c ∈ p, c ≠ 39) : Rep (39 :: tl 8) [50] (text A3 ts) (text A2 ts) :=
  h.rep hA3 (fun n Y Z _ hY hr => run_hd (empty_iff (N := 8)) (one_run (N := 8) hY hr) _ (by intro c hc; rw [List.eq_of_mem_replicate hc]; decide)) hq
theorem step1 {p : List Nat} {ts : List Tk} (h : Par p ts) (hq : ∀ c ∈ p, c ≠ 39) : Rep (39 :: tl 2) [49] (text A2 ts) (text A1 ts) :=
  h.rep hA2 (fun n Y Z _ hY hr => by
    have := run_hd (empty_iff (N := 2)) (one_run (N := 2) (r := n % 27 % 9) hY hr) (List.replicate (n / 27) 51 ++ List.replicate (n % 27 / 9) 50) (by
      intro c hc
      rcases List.mem_append.mp hc with hc | hc <;> (rw [List.eq_of_mem_replicate hc]; decide))
    simpa only [A2, A1, List.append_assoc] using this) hq
theorem step0 {p : List Nat} {ts : List Tk} (h : Par p ts) (hq : ∀ c ∈ p, c ≠ 39) : Rep (39 :: tl 0) [48] (text A1 ts) (text A0 ts) :=
  h.rep hA1 (fun n Y Z _ hY hr => by
    have := run_hd (empty_iff (N := 0)) (one_run (N := 0) (r := n % 27 % 9 % 3) hY hr) (List.replicate (n / 27) 51 ++ (List.replicate (n % 27 / 9) 50 ++ List.replicate (n % 27 % 9 / 3) 49)) (by
      intro c hc
      rcases List.mem_append.mp hc with hc | hc
      · rw [List.eq_of_mem_replicate hc]; decide
      · rcases List.mem_append.mp hc with hc | hc <;> (rw [List.eq_of_mem_replicate hc]; decide))
    simpa only [A1, A0, List.append_assoc, Nat.zero_add, Nat.div_one, Nat.mod_one, List.replicate_zero, List.append_nil] using this) hq
theorem Rep.one {m : Nat} {new : List Nat} : ∀ x : List Nat, Rep [m] new x (x.flatMap fun c => if c = m then new else [c])
  | [] => .nil
  | c :: r => by
    rw [List.flatMap_cons]
    by_cases h : c = m
    · subst h; rw [if_pos rfl]; exact Rep.hit (p := [c]) (Rep.one r)
    · rw [if_neg h]
      exact .skip (fun hp => h (List.cons_prefix_cons.mp hp).1.symm) (Rep.one r)
end Mine
end

section
open PySem Builtin Builtin.Str
namespace Mine
abbrev lst (x : Str) : List Nat := x.cps.toList
theorem lst_length (x : Str) : (lst x).length = x.length := by simp [Str.length]
theorem lst_append (x y : Str) : lst (x ++ y) = lst x ++ lst y := by
  show (x.cps ++ y.cps).toList = _
  simp
theorem lst_inj {x y : Str} (h : lst x = lst y) : x = y := by cases x; cases y; exact congrArg _ (Array.toList_inj.mp h)
theorem at_iff {x p : Str} {i : Nat} : StrLaws.At x p x.length i ↔ i + p.length ≤ x.length ∧ lst p <+: (lst x).drop i := by
  unfold StrLaws.At
  rw [StrLaws.subAt_eq, beq_iff_eq]
  constructor
  · rintro ⟨h1, h2⟩
    exact ⟨h1, by show p.cps.toList <+: _; rw [← h2]; exact List.take_prefix _ _⟩
  · rintro ⟨h1, h2⟩
    refine ⟨h1, ?_⟩
    rw [List.prefix_iff_eq_take, lst_length] at h2
    exact h2.symm
theorem not_pre {x p : Str} {i : Nat} (h : ¬ StrLaws.At x p x.length i) (hi : i ≤ x.length) : ¬ lst p <+: (lst x).drop i := by
  intro hp
  refine h (at_iff.mpr ⟨?_, hp⟩)
  have := hp.length_le
  rw [List.length_drop, lst_length, lst_length] at this
  by_cases h0 : p.length = 0
  · omega
  · omega
theorem rep_end {x p new : Str} {a : Nat} (ha : a ≤ x.length) (hn : ∀ k, a ≤ k → ¬ StrLaws.At x p x.length k) : Rep (lst p) (lst new) ((lst x).drop a) ((lst x).drop a) := by
  have := Rep.skipn (p := lst p) (new := lst new) (X := lst x) (z := []) (x.length - a) a (by rw [lst_length]; omega) (fun k h1 h2 => not_pre (hn k h1) (by omega)) (by rw [show a + (x.length - a) = (lst x).length by rw [lst_length]; omega, List.drop_length]; exact .nil)
  rw [List.append_nil, List.take_of_length_le (by rw [List.length_drop, lst_length]; omega)] at this
  exact this
theorem sub_lst (x : Str) (i j : Nat) : lst (strSub x i j) = ((lst x).drop i).take (j - i) := StrLaws.strSub_toList x i j
theorem join_cons (new a : Str) : ∀ r : List Str, r ≠ [] → lst (Str.join new (a :: r)) = lst a ++ lst new ++ lst (Str.join new r)
  | [], h => absurd rfl h
  | b :: r, _ => by
    show lst (a ++ new ++ Str.join new (b :: r)) = _
    rw [lst_append, lst_append]
theorem rep_parts {x p new : Str} : ∀ (cuts : List Nat) (a f : Nat), a ≤ x.length → StrLaws.ChainG x p x.length a cuts f → (∀ k, f ≤ k → ¬ StrLaws.At x p x.length k) → Rep (lst p) (lst new) ((lst x).drop a) (lst (Str.join new (StrLaws.partsFrom x p.length a cuts)))
  | [], a, f, ha, hG, hn => by
    have e : f = a := hG
    subst e
    show Rep _ _ _ (lst (strSub x f x.length))
    rw [sub_lst, List.take_of_length_le (by rw [List.length_drop, lst_length]; omega)]
    exact rep_end ha hn
  | c :: r, a, f, ha, hG, hn => by
    obtain ⟨h1, h2, h3, h4⟩ := hG
    have h2' := at_iff.mp h2
    have ih := rep_parts (new := new) r (c + p.length) f (by omega) h4 hn
    obtain ⟨pt, rr, e⟩ := StrLaws.partsFrom_ne x p.length (c + p.length) r
    show Rep _ _ _ (lst (Str.join new (strSub x a c :: StrLaws.partsFrom x p.length (c + p.length) r)))
    rw [join_cons _ _ _ (by rw [e]; exact List.cons_ne_nil _ _), sub_lst, List.append_assoc]
    have := Rep.skipn (p := lst p) (new := lst new) (X := lst x) (z := lst new ++ lst (Str.join new (StrLaws.partsFrom x p.length (c + p.length) r))) (c - a) a (by rw [lst_length]; omega) (fun k k1 k2 => not_pre (h3 k k1 (by omega)) (by omega)) (by
      rw [show a + (c - a) = c by omega]
      obtain ⟨t, ht⟩ := h2'.2
      rw [← ht]
      have e2 : (lst x).drop (c + p.length) = t := by
        rw [← List.drop_drop, ← ht, ← lst_length p, List.drop_left]
      rw [e2] at ih
      exact .hit ih)
    exact this
theorem kind_low {x p : Str} (h : p.cps.all (· < 256) = true) : decide (Builtin.Str.strKind x < Builtin.Str.strKind p) = false := by
  have : Builtin.Str.strKind p = 1 := by unfold Builtin.Str.strKind; rw [if_pos h]
  rw [this]
  unfold Builtin.Str.strKind
  split
  · decide
  · split <;> decide
theorem repl_rep (x p new : Str) (hp : 1 ≤ p.length) (hk : p.cps.all (· < 256) = true) : Rep (lst p) (lst new) (lst x) (lst (Txt.join new (Txt.split x p))) := by
  show Rep _ _ _ (lst (Builtin.Str.glued new (Txt.split x p)))
  rw [StrLaws.glued_eq_join]
  obtain ⟨f, hG, hn⟩ := StrLaws.occ_tight x p hp
  have h0 := rep_parts (new := new) _ 0 f (Nat.zero_le _) hG hn
  rw [List.drop_zero] at h0
  unfold Txt.split
  rw [kind_low hk, Bool.or_false]
  split
  · rename_i hlt
    have hlt' : x.length < p.length := of_decide_eq_true hlt
    have := rep_end (x := x) (p := p) (new := new) (a := 0) (Nat.zero_le _) (fun k _ hA => by have := (at_iff.mp hA).1; omega)
    rw [List.drop_zero] at this
    exact this
  · split
    · rename_i he
      have e : occurrences x p 0 x.length (x.length + 1) = [] := by simpa using he
      rw [e] at h0
      have : lst (Str.join new (StrLaws.partsFrom x p.length 0 [])) = lst x := by
        show lst (strSub x 0 x.length) = _
        rw [sub_lst, List.drop_zero, List.take_of_length_le (by rw [lst_length]; omega)]
      rw [this] at h0
      exact h0
    · rw [StrLaws.partsBetween_eq]
      exact h0
end Mine
end

section
open PySem
namespace Mine
noncomputable def five (l : List Nat) : List Nat := l.flatMap fun c => if c = 39 then [39, 34, 39, 34, 39] else [c]
theorem q39 : Str.ofString "'" = ⟨#[39]⟩ := by decide +kernel
theorem q5 : lst (Str.ofString "'\"'\"'") = [39, 34, 39, 34, 39] := by decide +kernel
theorem q2 : lst (Str.ofString "''") = [39, 39] := by decide +kernel
theorem lst_nil {x : Str} : x.length = 0 ↔ lst x = [] := by rw [← lst_length, List.length_eq_zero_iff]
theorem all_lst (x : Str) (p : Nat → Bool) : x.cps.all p = (lst x).all p := by rw [Array.all_toList]
theorem quote_nil {x : Str} (h : lst x = []) : lst (quoteS x) = [39, 39] := by
  unfold quoteS; rw [if_pos (lst_nil.mpr h), q2]
theorem quote_safe {x : Str} (h : lst x ≠ []) (hs : (lst x).all safeC = true) : quoteS x = x := by
  unfold quoteS; rw [if_neg (fun e => h (lst_nil.mp e)), all_lst, if_pos hs]
theorem quote_un {x : Str} (h : lst x ≠ []) (hs : (lst x).all safeC = false) : lst (quoteS x) = 39 :: (five (lst x) ++ [39]) := by
  unfold quoteS
  rw [if_neg (fun e => h (lst_nil.mp e)), all_lst, hs, if_neg Bool.false_ne_true, q39, StrLaws.replace_one, ← StrLaws.glued_eq_join]
  have h1 := repl_rep x ⟨#[39]⟩ (Str.ofString "'\"'\"'") (Nat.le_refl 1) (by simp)
  have h2 := h1.det (List.cons_ne_nil _ _) (Rep.one (m := 39) (lst x))
  rw [lst_append, lst_append]
  have e : lst (Builtin.Str.glued (Str.ofString "'\"'\"'") (Txt.split x ⟨#[39]⟩)) = five (lst x) := by
    have : lst (Txt.join (Str.ofString "'\"'\"'") (Txt.split x ⟨#[39]⟩)) = five (lst x) := by rw [h2, q5]; rfl
    exact this
  rw [e]
  rfl
noncomputable def jn : List (List Nat) → List Nat
  | [] => []
  | [a] => a
  | a :: b :: r => a ++ 32 :: jn (b :: r)
theorem sp32 : Str.ofString " " = ⟨#[32]⟩ := by decide +kernel
theorem join_jn : ∀ l : List Str, lst (Str.join (Str.ofString " ") l) = jn (l.map lst)
  | [] => rfl
  | [a] => rfl
  | a :: b :: r => by
    rw [join_cons _ _ _ (List.cons_ne_nil _ _), join_jn (b :: r), sp32, List.append_assoc]
    rfl
theorem tjoin_jn (l : List Str) : lst (Txt.join (Str.ofString " ") l) = jn (l.map lst) := by
  show lst (Builtin.Str.glued _ _) = _
  rw [StrLaws.glued_eq_join, join_jn]
noncomputable def Ed (d : Nat) (p : List Nat) : List Nat := p.flatMap fun c => if isM c = true then wov (List.replicate (3 ^ (c - 48 - d)) 39) else [c]
theorem Ed_append (d : Nat) (a b : List Nat) : Ed d (a ++ b) = Ed d a ++ Ed d b := by simp [Ed]
theorem Ed_cons (d c : Nat) (b : List Nat) : Ed d (c :: b) = (if isM c = true then wov (List.replicate (3 ^ (c - 48 - d)) 39) else [c]) ++ Ed d b := by simp [Ed]
theorem Ed_jn (d : Nat) : ∀ l : List (List Nat), Ed d (jn l) = jn (l.map (Ed d))
  | [] => rfl
  | [a] => rfl
  | a :: b :: r => by
    have : isM 32 = false := by decide
    simp only [jn, Ed_append, Ed_cons, this, List.map_cons]
    rw [Ed_jn d (b :: r)]
    rfl
theorem wov_ne {n : Nat} (h : n ≠ 0) : wov (List.replicate n 39) ≠ [] := by rw [wov_run' h]; exact List.cons_ne_nil _ _
theorem Ed_nil {d : Nat} {p : List Nat} (h : Ed d p = []) : p = [] := by
  cases p with
  | nil => rfl
  | cons c r =>
    rw [Ed_cons] at h
    have h1 := (List.append_eq_nil_iff.mp h).1
    split at h1
    · exact absurd h1 (wov_ne (pow3 _))
    · cases h1
theorem Ed_free {d : Nat} : ∀ {p : List Nat}, (∀ c ∈ p, isM c = false) → Ed d p = p
  | [], _ => rfl
  | c :: r, h => by
    rw [Ed_cons, h c (List.mem_cons_self ..), Ed_free fun x hx => h x (List.mem_cons_of_mem _ hx)]
    rfl
theorem five_append (a b : List Nat) : five (a ++ b) = five a ++ five b := by simp [five]
theorem five_tl (n : Nat) : five (tl n) = tl (3 * n) := by
  induction n with
  | zero => rfl
  | succ n ih =>
    rw [show 3 * (n + 1) = 3 + 3 * n by omega, tl_add 3, show tl (n + 1) = [34, 39] ++ tl n from rfl, five_append, ih]
    rfl
theorem five_run {n : Nat} (h : n ≠ 0) : five (wov (List.replicate n 39)) = wov (List.replicate (3 * n) 39) := by
  rw [wov_run' h, wov_run' (by omega), show (39 :: tl (n - 1)) = [39] ++ tl (n - 1) from rfl, five_append, five_tl, show five [39] = 39 :: tl 2 from by decide, show 3 * n - 1 = 2 + 3 * (n - 1) by omega, tl_add]
  rfl
theorem five_Ed {d : Nat} : ∀ {p : List Nat}, (∀ c ∈ p, c ≠ 39) → (∀ c ∈ p, isM c = true → 48 + (d + 1) ≤ c) → five (Ed (d + 1) p) = Ed d p
  | [], _, _ => rfl
  | c :: r, h1, h2 => by
    rw [Ed_cons, Ed_cons, five_append, five_Ed (fun x hx => h1 x (List.mem_cons_of_mem _ hx)) fun x hx => h2 x (List.mem_cons_of_mem _ hx)]
    by_cases hm : isM c = true
    · rw [if_pos hm, if_pos hm, five_run (pow3 _)]
      have := h2 c (List.mem_cons_self ..) hm
      have e : 3 * 3 ^ (c - 48 - (d + 1)) = 3 ^ (c - 48 - d) := by
        rw [show c - 48 - d = (c - 48 - (d + 1)) + 1 by omega, Nat.pow_succ, Nat.mul_comm]
      rw [e]
    · rw [if_neg hm, if_neg hm]
      have := h1 c (List.mem_cons_self ..)
      simp [five, this]
theorem mark_lst (d : Nat) : lst (mark d) = [48 + d] := rfl
theorem isM_mark {d : Nat} (h : d ≤ 3) : isM (48 + d) = true := by simp [isM]; omega
theorem safe_39 : safeC 39 = false := by decide +kernel
theorem safe_32 : safeC 32 = false := by decide +kernel
theorem innerS_lst (x : Str) (d : Nat) : lst (innerS x d) = (lst x).map fun c => if c = 39 then 48 + (d + 1) else c := by
  unfold innerS
  show lst (Builtin.Str.glued _ _) = _
  rw [StrLaws.glued_eq_join, emp]
  have : ∀ l : List Nat, lst (Str.join ⟨#[]⟩ (l.map fun c => if c = 39 then mark (d + 1) else ⟨#[c]⟩)) = l.map fun c => if c = 39 then 48 + (d + 1) else c := by
    intro l
    induction l with
    | nil => rfl
    | cons c l ih =>
      have e : lst (if c = 39 then mark (d + 1) else ⟨#[c]⟩) = [if c = 39 then 48 + (d + 1) else c] := by split <;> rfl
      cases l with
      | nil => exact e
      | cons b l =>
        rw [List.map_cons, join_cons _ _ _ (by simp), ih, e]
        rfl
  exact this _
theorem ok_isM {c : Nat} (h : okC c = true) : isM c = false := by
  simp [okC] at h
  simp [isM]; omega

structure Good (t : Tr) (d : Nat) : Prop where
  eq : lst (quoteS (wordS t)) = Ed d (lst (picS t d).1)
  nq : ∀ c ∈ lst (picS t d).1, c ≠ 39
  hi : ∀ c ∈ lst (picS t d).1, isM c = true → 48 + d ≤ c
  bare : (picS t d).2 = true → (∀ c ∈ lst (picS t d).1, isM c = false) ∧ (lst (picS t d).1).all safeC = true ∧ lst (picS t d).1 ≠ []
  wrap : (picS t d).2 = false → 39 ∈ lst (quoteS (wordS t))
theorem Ed_mark {d : Nat} (h : d ≤ 3) : Ed d [48 + d] = [39] := by
  simp [Ed, isM_mark h, wov]
theorem wrapped {d : Nat} {i : Str} (h : d ≤ 3) : Ed d (lst (mark d ++ i ++ mark d)) = 39 :: (Ed d (lst i) ++ [39]) := by
  rw [lst_append, lst_append, Ed_append, Ed_append, mark_lst, Ed_mark h]
  simp
theorem good_leaf (x : Str) (d : Nat) (hok : okT (.leaf x) = true) (hd : d ≤ 2) : Good (.leaf x) d := by
  have hokc : ∀ c ∈ lst x, isM c = false := fun c hc => ok_isM (List.all_eq_true.mp hok c hc)
  by_cases hb : bareS x = true
  · have e1 : picS (.leaf x) d = (innerS x d, true) := by rw [picS, hb, wrap_t rfl]
    have hb' := hb
    simp only [bareS, Bool.and_eq_true, Bool.not_eq_true', decide_eq_false_iff_not] at hb'
    have hne : lst x ≠ [] := fun e => hb'.1 (lst_nil.mpr e)
    have hs : (lst x).all safeC = true := hb'.2
    have hx39 : ∀ c ∈ lst x, c ≠ 39 := by
      rintro c hc rfl
      have := List.all_eq_true.mp hs 39 hc
      rw [safe_39] at this; cases this
    have e2 : lst (innerS x d) = lst x := by
      rw [innerS_lst]
      conv => rhs; rw [← List.map_id (lst x)]
      refine List.map_congr_left fun c hc => ?_
      rw [if_neg (hx39 c hc)]; rfl
    have e3 : lst (picS (.leaf x) d).1 = lst x := by rw [e1]; exact e2
    refine ⟨?_, ?_, ?_, ?_, ?_⟩
    · rw [e3, wordS, quote_safe hne hs, Ed_free hokc]
    · rw [e3]; exact hx39
    · rw [e3]; intro c hc hm; rw [hokc c hc] at hm; cases hm
    · rw [e3]; exact fun _ => ⟨hokc, hs, hne⟩
    · rw [e1]; intro h; cases h
  · have hb' : bareS x = false := by simpa using hb
    have e1 : picS (.leaf x) d = (mark d ++ innerS x d ++ mark d, false) := by rw [picS, hb', wrap_f rfl]
    have hin : ∀ c ∈ lst (innerS x d), c ≠ 39 ∧ (isM c = true → 48 + (d + 1) ≤ c) := by
      rw [innerS_lst]
      intro c hc
      obtain ⟨y, hy, rfl⟩ := List.mem_map.mp hc
      by_cases h39 : y = 39
      · rw [if_pos h39]; exact ⟨by omega, fun _ => Nat.le_refl _⟩
      · rw [if_neg h39]; exact ⟨h39, fun hm => by rw [hokc y hy] at hm; cases hm⟩
    have hEd : Ed d (lst (innerS x d)) = five (lst x) := by
      rw [innerS_lst]
      have : ∀ l : List Nat, (∀ c ∈ l, isM c = false) → Ed d (l.map fun c => if c = 39 then 48 + (d + 1) else c) = five l := by
        intro l
        induction l with
        | nil => intro _; rfl
        | cons c l ih =>
          intro h
          rw [List.map_cons, Ed_cons, ih fun y hy => h y (List.mem_cons_of_mem _ hy)]
          by_cases h39 : c = 39
          · rw [if_pos h39, isM_mark (by omega), if_pos rfl, show 48 + (d + 1) - 48 - d = 1 by omega, h39]
            rfl
          · rw [if_neg h39, h c (List.mem_cons_self ..)]
            simp [five, h39]
      exact this _ hokc
    have hquote : lst (quoteS x) = 39 :: (five (lst x) ++ [39]) := by
      by_cases hne : lst x = []
      · rw [quote_nil hne, hne]; rfl
      · refine quote_un hne ?_
        rw [bareS, Bool.and_eq_false_iff] at hb'
        rcases hb' with h | h
        · simp at h; exact absurd (lst_nil.mp h) hne
        · exact h
    refine ⟨?_, ?_, ?_, ?_, ?_⟩
    · rw [e1, wordS, hquote, wrapped (by omega), hEd]
    · rw [e1]; intro c hc
      simp only [lst_append, mark_lst, List.mem_append, List.mem_singleton] at hc
      rcases hc with (rfl | hc) | rfl
      · omega
      · exact (hin c hc).1
      · omega
    · rw [e1]; intro c hc hm
      simp only [lst_append, mark_lst, List.mem_append, List.mem_singleton] at hc
      rcases hc with (rfl | hc) | rfl
      · omega
      · have := (hin c hc).2 hm; omega
      · omega
    · rw [e1]; intro h; cases h
    · intro _; rw [wordS, hquote]; exact List.mem_cons_self ..
theorem jn_mem {c : Nat} : ∀ {l : List (List Nat)}, c ∈ jn l → c = 32 ∨ ∃ a ∈ l, c ∈ a
  | [a], h => .inr ⟨a, List.mem_singleton.mpr rfl, h⟩
  | a :: b :: r, h => by
    simp only [jn, List.mem_append, List.mem_cons] at h
    rcases h with h | h | h
    · exact .inr ⟨a, List.mem_cons_self .., h⟩
    · exact .inl h
    · rcases jn_mem h with h | ⟨x, hx, h⟩
      · exact .inl h
      · exact .inr ⟨x, List.mem_cons_of_mem _ hx, h⟩
theorem wordsS_map : ∀ ts : List Tr, (wordsS ts).map quoteS = ts.map fun t => quoteS (wordS t)
  | [] => rfl
  | t :: ts => by rw [wordsS, List.map_cons, wordsS_map ts]; rfl
theorem word_jn {ts : List Tr} {d : Nat} (h : ∀ t ∈ ts, Good t d) : jn ((ts.map fun t => quoteS (wordS t)).map lst) = Ed d (jn (((picsS ts d).map (·.1)).map lst)) := by
  rw [Ed_jn, picsS_eq, List.map_map, List.map_map, List.map_map, List.map_map]
  congr 1
  exact List.map_congr_left fun t ht => (h t ht).eq
theorem good_node (ts : List Tr) (d : Nat) (h : ∀ t ∈ ts, Good t (d + 1)) (hd : d ≤ 1) : Good (.node ts) d := by
  have hW : lst (wordS (.node ts)) = Ed (d + 1) (jn (((picsS ts (d + 1)).map (·.1)).map lst)) := by
    rw [wordS, tjoin_jn, wordsS_map, word_jn h]
  have hP : lst (Txt.join (Str.ofString " ") ((picsS ts (d + 1)).map (·.1))) = jn (((picsS ts (d + 1)).map (·.1)).map lst) := tjoin_jn _
  have hmem : ∀ c ∈ jn (((picsS ts (d + 1)).map (·.1)).map lst), c ≠ 39 ∧ (isM c = true → 48 + (d + 1) ≤ c) := by
    intro c hc
    rcases jn_mem hc with rfl | ⟨a, ha, hc⟩
    · exact ⟨by decide, fun hm => absurd hm (by decide)⟩
    · rw [picsS_eq, List.map_map, List.map_map] at ha
      obtain ⟨t, ht, rfl⟩ := List.mem_map.mp ha
      exact ⟨(h t ht).nq c hc, (h t ht).hi c hc⟩
  have hfive := five_Ed (d := d) (fun c hc => (hmem c hc).1) fun c hc => (hmem c hc).2
  by_cases ho : onlyS (picsS ts (d + 1)) = true
  · have e1 : picS (.node ts) d = (Txt.join (Str.ofString " ") ((picsS ts (d + 1)).map (·.1)), true) := by rw [picS, ho, wrap_t rfl]
    cases ts with
    | nil => rw [picsS, onlyS] at ho; cases ho; intro _ h; cases h
    | cons t r => cases r with
      | cons t2 r => rw [picsS, picsS, onlyS] at ho; cases ho; intro _ h; cases h
      | nil =>
        have hb : (picS t (d + 1)).2 = true := by simpa [picsS, onlyS] using ho
        have g := h t (List.mem_cons_self ..)
        obtain ⟨b1, b2, b3⟩ := g.bare hb
        have e3 : lst (picS (.node [t]) d).1 = lst (picS t (d + 1)).1 := by rw [e1, hP]; simp [picsS, jn]
        have e4 : lst (wordS (.node [t])) = lst (picS t (d + 1)).1 := by rw [hW]; simp only [picsS, List.map_cons, List.map_nil, jn]; exact Ed_free b1
        refine ⟨?_, ?_, ?_, ?_, ?_⟩
        · rw [quote_safe (by rw [e4]; exact b3) (by rw [e4]; exact b2), e4, e3, Ed_free b1]
        · rw [e3]; exact g.nq
        · rw [e3]; intro c hc hm; rw [b1 c hc] at hm; cases hm
        · rw [e3]; exact fun _ => ⟨b1, b2, b3⟩
        · rw [e1]; intro h; cases h
  · have ho' : onlyS (picsS ts (d + 1)) = false := by simpa using ho
    have e1 : picS (.node ts) d = (mark d ++ Txt.join (Str.ofString " ") ((picsS ts (d + 1)).map (·.1)) ++ mark d, false) := by rw [picS, ho', wrap_f rfl]
    have hquote : lst (quoteS (wordS (.node ts))) = 39 :: (five (lst (wordS (.node ts))) ++ [39]) := by
      by_cases hne : lst (wordS (.node ts)) = []
      · rw [quote_nil hne, hne]; rfl
      · refine quote_un hne ?_
        have hun : ∃ c ∈ lst (wordS (.node ts)), safeC c = false := by
          cases ts with
          | nil => exact absurd (by rw [wordS]; rfl) hne
          | cons t r => cases r with
            | nil =>
              have hb : (picS t (d + 1)).2 = false := by simpa [picsS, onlyS] using ho'
              refine ⟨39, ?_, safe_39⟩
              have := (h t (List.mem_cons_self ..)).wrap hb
              rw [wordS, tjoin_jn, wordsS_map]
              exact this
            | cons t2 r =>
              refine ⟨32, ?_, safe_32⟩
              rw [wordS, tjoin_jn, wordsS_map]
              simp [jn]
        obtain ⟨c, hc, hs⟩ := hun
        rw [List.all_eq_false]
        exact ⟨c, hc, by rw [hs]; exact Bool.false_ne_true⟩
    refine ⟨?_, ?_, ?_, ?_, ?_⟩
    · rw [hquote, e1, wrapped (by omega), hW, hfive, hP]
    · rw [e1]; intro c hc
      simp only [lst_append, mark_lst, List.mem_append, List.mem_singleton] at hc
      rcases hc with (rfl | hc) | rfl
      · omega
      · rw [hP] at hc; exact (hmem c hc).1
      · omega
    · rw [e1]; intro c hc hm
      simp only [lst_append, mark_lst, List.mem_append, List.mem_singleton] at hc
      rcases hc with (rfl | hc) | rfl
      · omega
      · rw [hP] at hc; have := (hmem c hc).2 hm; omega
      · omega
    · rw [e1]; intro h; cases h
    · intro _; rw [hquote]; exact List.mem_cons_self ..
theorem okTs_mem {t : Tr} : ∀ {ts : List Tr}, okTs ts = true → t ∈ ts → okT t = true
  | _ :: _, h, hm => by
    rw [okTs, Bool.and_eq_true] at h
    rcases List.mem_cons.mp hm with rfl | hm
    · exact h.1
    · exact okTs_mem h.2 hm
theorem good_all : ∀ (t : Tr) (d : Nat), okT t = true → d + dpt t ≤ 2 → Good t d := Tr.ind (fun x d h1 h2 => good_leaf x d h1 (by rw [dpt] at h2; omega)) fun ts ih d h1 h2 => by
  rw [dpt] at h2
  refine good_node ts d (fun t ht => ih t ht (d + 1) (okTs_mem h1 ht) ?_) (by omega)
  have := dpts_mem ht
  omega
noncomputable def lineS (ts : List Tr) : Str := Txt.join (Str.ofString " ") ((wordsS ts).map quoteS)
noncomputable def pictS (ts : List Tr) : Str := Txt.join (Str.ofString " ") ((picsS ts 0).map (·.1))
theorem line_pict {ts : List Tr} (h1 : okTs ts = true) (h2 : dpts ts ≤ 2) : lst (lineS ts) = EE (lst (pictS ts)) ∧ ∀ c ∈ lst (pictS ts), c ≠ 39 := by
  have hg : ∀ t ∈ ts, Good t 0 := fun t ht => good_all t 0 (okTs_mem h1 ht) (by have := dpts_mem ht; omega)
  constructor
  · rw [lineS, pictS, tjoin_jn, tjoin_jn, wordsS_map, word_jn hg]
    rfl
  · intro c hc
    rw [pictS, tjoin_jn] at hc
    rcases jn_mem hc with rfl | ⟨a, ha, hc⟩
    · decide
    · rw [picsS_eq, List.map_map, List.map_map] at ha
      obtain ⟨t, ht, rfl⟩ := List.mem_map.mp ha
      exact (hg t ht).nq c hc
end Mine
end

section
open PySem
namespace Mine
noncomputable def replS (x p n : Str) : Str := Txt.join n (Txt.split x p)
noncomputable def rowS (k : Nat) : Str := ⟨(39 :: tl (3 ^ k - 1)).toArray⟩
theorem row_lst (k : Nat) : lst (rowS k) = 39 :: tl (3 ^ k - 1) := by simp [rowS]
theorem tl_mem {c : Nat} : ∀ {n : Nat}, c ∈ tl n → c = 34 ∨ c = 39
  | n + 1, h => by
    simp only [tl, List.mem_cons] at h
    rcases h with h | h | h
    · exact .inl h
    · exact .inr h
    · exact tl_mem h
theorem row_mem {c k : Nat} (h : c ∈ lst (rowS k)) : c = 34 ∨ c = 39 := by
  rw [row_lst] at h
  rcases List.mem_cons.mp h with h | h
  · exact .inr h
  · exact tl_mem h
theorem repl_mark (x n : Str) (k : Nat) (hk : k ≤ 3) : lst (replS x (mark k) n) = (lst x).flatMap fun c => if c = 48 + k then lst n else [c] := by
  have h1 := repl_rep x (mark k) n (Nat.le_refl 1) (by simp [mark]; omega)
  exact h1.det (List.cons_ne_nil _ _) (Rep.one (m := 48 + k) (lst x))
theorem repl_row (x : Str) (k : Nat) {z : List Nat} (h : Rep (39 :: tl (3 ^ k - 1)) [48 + k] (lst x) z) : lst (replS x (rowS k) (mark k)) = z := by
  have h1 := repl_rep x (rowS k) (mark k) (by rw [← lst_length, row_lst]; simp) (by
    rw [all_lst, List.all_eq_true]
    intro c hc
    rcases row_mem hc with rfl | rfl <;> decide)
  rw [row_lst] at h1
  exact h1.det (List.cons_ne_nil _ _) h
noncomputable def sub1 (k : Nat) (l : List Nat) : List Nat := l.flatMap fun c => if c = 48 + k then lst (rowS k) else [c]
theorem sub1_free {k : Nat} : ∀ {l : List Nat}, (∀ c ∈ l, isM c = false) → k ≤ 3 → sub1 k l = l
  | [], _, _ => rfl
  | c :: r, h, hk => by
    have h1 := h c (List.mem_cons_self ..)
    have h2 : ¬ c = 48 + k := by rintro rfl; rw [isM_mark hk] at h1; cases h1
    have ih := sub1_free (k := k) (l := r) (fun x hx => h x (List.mem_cons_of_mem _ hx)) hk
    rw [sub1, List.flatMap_cons, if_neg h2]
    show c :: sub1 k r = _
    rw [ih]
theorem sub1_append (k : Nat) (a b : List Nat) : sub1 k (a ++ b) = sub1 k a ++ sub1 k b := by simp [sub1]
theorem row_free (k : Nat) : ∀ c ∈ lst (rowS k), isM c = false := by
  intro c hc
  rcases row_mem hc with rfl | rfl <;> decide
theorem sub1_one {k c : Nat} : sub1 k [c] = if c = 48 + k then lst (rowS k) else [c] := by simp [sub1]
theorem row_EE {k : Nat} (hk : k ≤ 3) : EE [48 + k] = lst (rowS k) := by
  rw [row_lst, ← wov_run' (pow3 k)]
  simp [EE, isM_mark hk]
theorem sub_all : ∀ l : List Nat, sub1 3 (sub1 2 (sub1 1 (sub1 0 l))) = EE l
  | [] => rfl
  | c :: r => by
    have e : c :: r = [c] ++ r := rfl
    rw [e, sub1_append, sub1_append, sub1_append, sub1_append, sub_all r, show EE ([c] ++ r) = EE [c] ++ EE r from by simp [EE]]
    congr 1
    by_cases hm : isM c = true
    · have hc : c = 48 + 0 ∨ c = 48 + 1 ∨ c = 48 + 2 ∨ c = 48 + 3 := by
        simp [isM] at hm; omega
      rcases hc with rfl | rfl | rfl | rfl
      · rw [row_EE (by decide), sub1_one, if_pos rfl, sub1_free (row_free 0) (by decide), sub1_free (row_free 0) (by decide), sub1_free (row_free 0) (by decide)]
      · rw [row_EE (by decide), sub1_one, if_neg (by decide), sub1_one, if_pos rfl, sub1_free (row_free 1) (by decide), sub1_free (row_free 1) (by decide)]
      · rw [row_EE (by decide), sub1_one, if_neg (by decide), sub1_one, if_neg (by decide), sub1_one, if_pos rfl, sub1_free (row_free 2) (by decide)]
      · rw [row_EE (by decide), sub1_one, if_neg (by decide), sub1_one, if_neg (by decide), sub1_one, if_neg (by decide), sub1_one, if_pos rfl]
    · have hm' : isM c = false := by simpa using hm
      have hf : ∀ x ∈ [c], isM x = false := by intro x hx; rw [List.mem_singleton.mp hx]; exact hm'
      rw [sub1_free hf (by decide), sub1_free hf (by decide), sub1_free hf (by decide), sub1_free hf (by decide)]
      simp [EE, hm']
theorem first_law {ts : List Tr} (h1 : okTs ts = true) (h2 : dpts ts ≤ 2) :
    replS (replS (replS (replS (pictS ts) (mark 0) (rowS 0)) (mark 1) (rowS 1)) (mark 2) (rowS 2)) (mark 3) (rowS 3) = lineS ts := by
  refine lst_inj ?_
  rw [(line_pict h1 h2).1, ← sub_all, repl_mark _ _ 3 (by decide), repl_mark _ _ 2 (by decide), repl_mark _ _ 1 (by decide), repl_mark _ _ 0 (by decide)]
  rfl
theorem second_law {ts : List Tr} (h1 : okTs ts = true) (h2 : dpts ts ≤ 2) {tks : List Tk} {z : Str} (hp : Par (lst (pictS ts)) tks) (hz : lst z = text A0 tks) :
    replS (replS (replS (replS (lineS ts) (rowS 3) (mark 3)) (rowS 2) (mark 2)) (rowS 1) (mark 1)) (rowS 0) (mark 0) = z := by
  obtain ⟨e, hq⟩ := line_pict h1 h2
  have e4 : lst (lineS ts) = text A4 tks := by rw [e, hp.line]; rfl
  have e3 := repl_row (lineS ts) 3 (by rw [e4]; exact step3 hp hq)
  have e2 := repl_row (replS (lineS ts) (rowS 3) (mark 3)) 2 (by rw [e3]; exact step2 hp hq)
  have e1 := repl_row (replS (replS (lineS ts) (rowS 3) (mark 3)) (rowS 2) (mark 2)) 1 (by rw [e2]; exact step1 hp hq)
  have e0 := repl_row (replS (replS (replS (lineS ts) (rowS 3) (mark 3)) (rowS 2) (mark 2)) (rowS 1) (mark 1)) 0 (by rw [e1]; exact step0 hp hq)
  exact lst_inj (by rw [e0, hz])
end Mine
end

section
open PySem PySem.W PyProof.Rows PySem.Calls
namespace Mine
theorem slice_text (x : Str) (l u : Option Int) : Txt.slice x l u = StrLaws.sliceText x l u := rfl
theorem idx_clip (a b len : Nat) : Builtin.Str.strSliceIndices (some (a : Int)) (some (b : Int)) 1 len = Builtin.Str.strSliceIndices (some ((min a len : Nat) : Int)) (some ((min b len : Nat) : Int)) 1 len := by
  have h1 : ¬ ((a : Int) < 0) := by omega
  have h2 : ¬ ((b : Int) < 0) := by omega
  have h3 : ¬ (((min a len : Nat) : Int) < 0) := by omega
  have h4 : ¬ (((min b len : Nat) : Int) < 0) := by omega
  have e1 : max (0 : Int) (min (a : Int) (len : Int)) = ((min a len : Nat) : Int) := by omega
  have e2 : max (0 : Int) (min (b : Int) (len : Int)) = ((min b len : Nat) : Int) := by omega
  have e3 : max (0 : Int) (min ((min a len : Nat) : Int) (len : Int)) = ((min a len : Nat) : Int) := by omega
  have e4 : max (0 : Int) (min ((min b len : Nat) : Int) (len : Int)) = ((min b len : Nat) : Int) := by omega
  simp only [Builtin.Str.strSliceIndices, h1, h2, h3, h4, if_false, e1, e2, e3, e4, show ((1 : Int) > 0) = True from by simp, if_true]
theorem slice_lst (x : Str) {a b : Nat} (hab : a ≤ b) : lst (Txt.slice x (some (a : Int)) (some (b : Int))) = ((lst x).drop a).take (b - a) := by
  have e : Txt.slice x (some (a : Int)) (some (b : Int)) = StrLaws.sliceText x (some ((min a x.length : Nat) : Int)) (some ((min b x.length : Nat) : Int)) := by
    rw [slice_text]
    unfold StrLaws.sliceText
    rw [idx_clip]
  rw [e, StrLaws.sliceText_nat x (by omega) (by omega)]
  show ((lst x).drop _).take _ = _
  have hl := lst_length x
  by_cases h : a < x.length
  · rw [show min a x.length = a by omega]
    rw [List.take_eq_take_iff, List.length_drop, hl]
    omega
  · rw [List.drop_eq_nil_of_le (by omega), List.drop_eq_nil_of_le (by omega)]
    simp
theorem slice_one (x : Str) (k : Nat) : lst (Txt.slice x (some (k : Int)) (some ((k : Int) + 1))) = ((lst x).drop k).take 1 := by
  have := slice_lst x (a := k) (b := k + 1) (by omega)
  rw [show k + 1 - k = 1 by omega] at this
  exact this
theorem slice_two (x : Str) (k : Nat) : lst (Txt.slice x (some ((k : Int) + 1)) (some ((k : Int) + 2))) = ((lst x).drop (k + 1)).take 1 := by
  have := slice_lst x (a := k + 1) (b := k + 2) (by omega)
  rw [show k + 2 - (k + 1) = 1 by omega] at this
  exact this
theorem d34 : lst (Str.ofString "\"") = [34] := by decide +kernel
theorem take1_iff {l : List Nat} {c : Nat} : l.take 1 = [c] ↔ ∃ r, l = c :: r := by
  cases l with
  | nil => simp
  | cons a r => simp
theorem beq_lst {x y : Str} : (x == y) = true ↔ lst x = lst y := by
  rw [beq_iff_eq]
  exact ⟨fun h => by rw [h], lst_inj⟩
theorem slice_q {x : Str} {k : Nat} : (Txt.slice x (some (k : Int)) (some ((k : Int) + 1)) == Str.ofString "\"") = true ↔ ∃ r, (lst x).drop k = 34 :: r := by
  rw [beq_lst, slice_one, d34, take1_iff]
theorem any_marks {y : Str} : ([Str.ofString "0", Str.ofString "1", Str.ofString "2", Str.ofString "3"].any fun z => z == y) = true ↔ ∃ m, isM m = true ∧ lst y = [m] := by
  have e0 : lst (Str.ofString "0") = [48] := by decide +kernel
  have e1 : lst (Str.ofString "1") = [49] := by decide +kernel
  have e2 : lst (Str.ofString "2") = [50] := by decide +kernel
  have e3 : lst (Str.ofString "3") = [51] := by decide +kernel
  rw [List.any_eq_true]
  constructor
  · rintro ⟨z, hz, h⟩
    rw [beq_lst] at h
    simp only [List.mem_cons, List.not_mem_nil, or_false] at hz
    rcases hz with rfl | rfl | rfl | rfl
    · exact ⟨48, by decide, by rw [← h, e0]⟩
    · exact ⟨49, by decide, by rw [← h, e1]⟩
    · exact ⟨50, by decide, by rw [← h, e2]⟩
    · exact ⟨51, by decide, by rw [← h, e3]⟩
  · rintro ⟨m, hm, h⟩
    have : m = 48 ∨ m = 49 ∨ m = 50 ∨ m = 51 := by simp [isM] at hm; omega
    rcases this with rfl | rfl | rfl | rfl
    · exact ⟨_, List.mem_cons_self .., beq_lst.mpr (by rw [e0, h])⟩
    · exact ⟨Str.ofString "1", by simp, beq_lst.mpr (by rw [e1, h])⟩
    · exact ⟨Str.ofString "2", by simp, beq_lst.mpr (by rw [e2, h])⟩
    · exact ⟨Str.ofString "3", by simp, beq_lst.mpr (by rw [e3, h])⟩
theorem slice_m {x : Str} {k : Nat} : ([Str.ofString "0", Str.ofString "1", Str.ofString "2", Str.ofString "3"].any fun z => z == Txt.slice x (some ((k : Int) + 1)) (some ((k : Int) + 2))) = true ↔ ∃ m r, isM m = true ∧ (lst x).drop (k + 1) = m :: r := by
  rw [any_marks, slice_two]
  constructor
  · rintro ⟨m, hm, h⟩
    obtain ⟨r, hr⟩ := take1_iff.mp h
    exact ⟨m, r, hm, hr⟩
  · rintro ⟨m, r, hm, h⟩
    exact ⟨m, hm, take1_iff.mpr ⟨r, h⟩⟩
theorem drop_getD {x : Str} {k c : Nat} {r : List Nat} (h : (lst x).drop k = c :: r) : k < x.length ∧ x.cps.getD k 0 = c ∧ (lst x).drop (k + 1) = r := by
  have hlt : k < (lst x).length := by
    apply Decidable.byContradiction
    intro hn
    rw [List.drop_eq_nil_of_le (by omega)] at h
    cases h
  have e := List.drop_eq_getElem_cons hlt
  rw [h] at e
  rw [lst_length] at hlt
  refine ⟨hlt, ?_, (List.cons.inj e).2.symm⟩
  have h1 := (List.cons.inj e).1
  rw [h1]
  have hlt' : k < x.cps.size := hlt
  simp [Array.getD, hlt']
theorem drop_of_lt {x : Str} {k : Nat} (h : k < x.length) : (lst x).drop k = x.cps.getD k 0 :: (lst x).drop (k + 1) := by
  have hlt : k < (lst x).length := by rw [lst_length]; exact h
  have e := List.drop_eq_getElem_cons hlt
  have := (drop_getD e).2.1
  rw [this]; exact e
theorem test_true {x : Str} {k : Nat} (h1 : (Txt.slice x (some (k : Int)) (some ((k : Int) + 1)) == Str.ofString "\"") = true)
    (h2 : ([Str.ofString "0", Str.ofString "1", Str.ofString "2", Str.ofString "3"].any fun z => z == Txt.slice x (some ((k : Int) + 1)) (some ((k : Int) + 2))) = true) :
    k + 1 < x.length ∧ isM (x.cps.getD (k + 1) 0) = true ∧ (lst x).drop k = 34 :: x.cps.getD (k + 1) 0 :: (lst x).drop (k + 2) := by
  obtain ⟨r, hr⟩ := slice_q.mp h1
  obtain ⟨m, r', hm, hr'⟩ := slice_m.mp h2
  obtain ⟨a1, a2, a3⟩ := drop_getD hr
  obtain ⟨b1, b2, b3⟩ := drop_getD hr'
  refine ⟨b1, by rw [b2]; exact hm, ?_⟩
  rw [hr, ← a3, hr', b2, show k + 2 = k + 1 + 1 from rfl, b3]
theorem stop1 {x : Str} {k : Nat} (h1 : (Txt.slice x (some (k : Int)) (some ((k : Int) + 1)) == Str.ofString "\"") = false) : stopAt ((lst x).drop k) := by
  intro m p' e
  have := slice_q.mpr ⟨_, e⟩
  rw [h1] at this; cases this
theorem stop2 {x : Str} {k : Nat} (h2 : ([Str.ofString "0", Str.ofString "1", Str.ofString "2", Str.ofString "3"].any fun z => z == Txt.slice x (some ((k : Int) + 1)) (some ((k : Int) + 2))) = false) : stopAt ((lst x).drop k) := by
  intro m p' e
  apply Decidable.byContradiction
  intro hm
  have hm' : isM m = true := by simpa using hm
  have := slice_m.mpr ⟨m, p', hm', (drop_getD e).2.2⟩
  rw [h2] at this; cases this
end Mine
end

section
open PySem PySem.W PyProof.Rows PySem.Calls
namespace Mine
section
variable {prog : Program} {w : World} {A : Around} {E : Value → Shared → Prop} {Q : Flow → Shared → Prop} {s : Shared} {env : Env} {h₀ : Heap} {L : Addr}
theorem While_invQ {test : Expr} {body : List Stmt} {pos : Pos} {m : Str → Option Value} {news : List (Addr × Obj)} (J : Nat → (Str → Option Value) → Prop) (Xt : (Str → Option Value) → Prop) {n₀ : Nat}
    (F : Fr h₀ L s.heap m) (N : News h₀ L s.heap news) (hJ : J n₀ m)
    (turn : ∀ n m₁ h₁ tk₁ (Qn : Flow → Shared → Prop) (Qe : Shared → Prop), Fr h₀ L h₁ m₁ → News h₀ L h₁ news → J n m₁ → (∀ h' tk m₂ n' f, Fr h₀ L h' m₂ → News h₀ L h' news → n' < n → J n' m₂ → f = .next ∨ f = .cont → Qn f { s with heap := h', toks := tk }) →
      (∀ h' tk m₂, Fr h₀ L h' m₂ → News h₀ L h' news → Xt m₂ → Qe { s with heap := h', toks := tk }) →
      wpAny (model prog w) A (isTrue test env (eval test env)) (fun b s₂ =>
        if b = true then wpAny (model prog w) A (execs body env) Qn E s₂ else Qe s₂) E { s with heap := h₁, toks := tk₁ })
    (exit : ∀ h' tk m₂, Fr h₀ L h' m₂ → News h₀ L h' news → Xt m₂ → Q .next { s with heap := h', toks := tk })
    (hE : PassesOwn (model prog w) A env E := by passes_own) :
    wpAny (model prog w) A (exec (.While test body [] pos) env) Q E s := by
  refine While_inv2 (fun n m₁ nx => J n m₁ ∧ nx = news) F N ⟨hJ, rfl⟩ ?_ hE
  rintro n m₁ news₁ h₁ tk₁ F₁ N₁ ⟨J₁, rfl⟩
  refine turn n m₁ h₁ tk₁ _ _ F₁ N₁ J₁ (fun h' tk m₂ n' f F₂ N₂ hn hJ₂ hf => ?_) exit
  rcases hf with rfl | rfl
  · exact ⟨h', tk, m₂, news₁, n', rfl, F₂, N₂, hn, hJ₂, rfl⟩
  · exact ⟨h', tk, m₂, news₁, n', rfl, F₂, N₂, hn, hJ₂, rfl⟩
end
noncomputable def smap (u : Str → Option Value) (wr : Str) (twr : Tok) (k : Nat) (tk : Tok) (x : Str) (tx : Tok) : Str → Option Value := fun z => if z = Str.ofString "depth" then u z else if z = Str.ofString "marks" then u z else if z = Str.ofString "total" then u z else
  if z = Str.ofString "k" then some (Value.int k tk) else if z = Str.ofString "written" then some (Value.str wr twr) else List.lookup z [(Str.ofString "picture", Value.str x tx)].reverse
theorem smap_start (wr : Str) (twr : Tok) (tk : Tok) (x : Str) (tx : Tok) : (fun z => if z = Str.ofString "k" then some (Value.int 0 tk) else if z = Str.ofString "written" then some (Value.str wr twr) else List.lookup z [(Str.ofString "picture", Value.str x tx)].reverse) = smap (fun _ => none) wr twr 0 tk x tx := by
  funext z
  unfold smap
  by_cases h1 : z = Str.ofString "depth"
  · subst h1
    have e1 : ¬ (Str.ofString "depth" = Str.ofString "k") := by decide +kernel
    have e2 : ¬ (Str.ofString "depth" = Str.ofString "written") := by decide +kernel
    have e3 : (Str.ofString "depth" == Str.ofString "picture") = false := by decide +kernel
    simp [e1, e2, List.lookup, e3]
  · by_cases h2 : z = Str.ofString "marks"
    · subst h2
      have e1 : ¬ (Str.ofString "marks" = Str.ofString "k") := by decide +kernel
      have e2 : ¬ (Str.ofString "marks" = Str.ofString "written") := by decide +kernel
      have e3 : (Str.ofString "marks" == Str.ofString "picture") = false := by decide +kernel
      simp [e1, e2, List.lookup, e3]
    · by_cases h3 : z = Str.ofString "total"
      · subst h3
        have e1 : ¬ (Str.ofString "total" = Str.ofString "k") := by decide +kernel
        have e2 : ¬ (Str.ofString "total" = Str.ofString "written") := by decide +kernel
        have e3 : (Str.ofString "total" == Str.ofString "picture") = false := by decide +kernel
        simp [e1, e2, List.lookup, e3]
      · simp only [if_neg h1, if_neg h2, if_neg h3]
        rfl
theorem smap_cont (u : Str → Option Value) (wr : Str) (twr : Tok) (k : Nat) (tk : Tok) (x : Str) (tx : Tok) (wr' : Str) (twr' tk' : Tok) (k' : Int) (hk : k' = ((k + 1 : Nat) : Int)) :
    (fun y => if y = Str.ofString "k" then some (Value.int k' tk') else if y = Str.ofString "written" then some (Value.str wr' twr') else smap u wr twr k tk x tx y) = smap u wr' twr' (k + 1) tk' x tx := by
  subst hk
  funext z
  unfold smap
  have e1 : ¬ (Str.ofString "k" = Str.ofString "depth") := by decide +kernel
  have e2 : ¬ (Str.ofString "k" = Str.ofString "marks") := by decide +kernel
  have e3 : ¬ (Str.ofString "k" = Str.ofString "total") := by decide +kernel
  have f1 : ¬ (Str.ofString "written" = Str.ofString "depth") := by decide +kernel
  have f2 : ¬ (Str.ofString "written" = Str.ofString "marks") := by decide +kernel
  have f3 : ¬ (Str.ofString "written" = Str.ofString "total") := by decide +kernel
  have f4 : ¬ (Str.ofString "written" = Str.ofString "k") := by decide +kernel
  by_cases h1 : z = Str.ofString "k"
  · subst h1; simp [e1, e2, e3]
  · by_cases h2 : z = Str.ofString "written"
    · subst h2; simp [f1, f2, f3, f4]
    · simp only [if_neg h1, if_neg h2]
noncomputable def smap2 (u : Str → Option Value) (wr : Str) (twr : Tok) (k₀ : Nat) (tk₀ : Tok) (x : Str) (tx : Tok) (k : Nat) (tk : Tok) (tot : Nat) (tt : Tok) : Str → Option Value := fun y => if y = Str.ofString "k" then some (Value.int k tk) else if y = Str.ofString "total" then some (Value.int tot tt) else smap u wr twr k₀ tk₀ x tx y
theorem one_in (c : Nat) : (Builtin.Str.occurrences (Str.ofString "0123") ⟨#[c]⟩ 0 (Str.ofString "0123").length 1).isEmpty = !isM c := by
  have h1 := StrLaws.found_one (Str.ofString "0123") c
  have h3 : (Str.ofString "0123").cps.toList = [48, 49, 50, 51] := by decide +kernel
  rw [h3] at h1
  have h2 : decide (c ∈ [48, 49, 50, 51]) = isM c := by
    unfold isM
    rw [← Bool.decide_and]
    congr 1
    simp only [List.mem_cons, List.not_mem_nil, or_false, eq_iff_iff]
    omega
  rw [h2] at h1
  rw [← h1, Bool.not_not]
theorem item_one {x : Str} {k : Nat} (h : (k : Int) < x.length) : Txt.item x k = ⟨#[x.cps.getD k 0]⟩ := by
  rw [item_eq (Int.natCast_nonneg k) h, Int.toNat_natCast]
theorem int_item {x : Str} {k : Nat} (h : (k : Int) < x.length) (hm : (Builtin.Str.occurrences (Str.ofString "0123") (Txt.item x k) 0 (Str.ofString "0123").length 1).isEmpty = false) : PySem.intText? (Txt.item x k) = some ((x.cps.getD k 0 - 48 : Nat) : Int) := by
  rw [item_one h, one_in] at *
  have hc : isM (x.cps.getD k 0) = true := by simpa using hm
  generalize x.cps.getD k 0 = c at *
  have : c = 48 ∨ c = 49 ∨ c = 50 ∨ c = 51 := by simp [isM] at hc; omega
  rcases this with rfl | rfl | rfl | rfl <;> decide +kernel
theorem mark_sub {x : Str} {k : Nat} (h : (k : Int) < x.length) (hm : (Builtin.Str.occurrences (Str.ofString "0123") (Txt.item x k) 0 (Str.ofString "0123").length 1).isEmpty = false) : x.cps.getD k 0 - 48 ≤ 3 := by
  rw [item_one h, one_in] at hm
  have hc : isM (x.cps.getD k 0) = true := by simpa using hm
  unfold isM at hc
  rw [Bool.and_eq_true, decide_eq_true_eq, decide_eq_true_eq] at hc
  omega
theorem item_len1 (x : Str) (i : Int) : (Txt.item x i).length ≤ 640 := by
  show 1 ≤ 640
  decide
theorem powS {prog : Program} {w : World} {A : Around} {E : Value → Shared → Prop} {s : Shared} {j : Nat} {t u : Tok} {Q : Value → Shared → Prop} (hj : j ≤ 3) (h : ∀ t' k, Q (.int ((3 ^ j : Nat) : Int) t') { s with toks := k }) : wpAny (model prog w) A (binaryOp .Pow (.int 3 t) (.int (j : Int) u)) Q E s := by
  refine pow_int_small (by omega) (by omega) (by decide) ?_
  have := h s.toks (s.toks + 1)
  rw [Int.toNat_natCast]
  simpa using this
theorem smap_of {M : Str → Option Value} {wr : Str} {twr : Tok} {k : Nat} {tk : Tok} {x : Str} {tx : Tok} (h1 : M (Str.ofString "k") = some (Value.int k tk)) (h2 : M (Str.ofString "written") = some (Value.str wr twr))
    (h3 : ∀ z, z ≠ Str.ofString "depth" → z ≠ Str.ofString "marks" → z ≠ Str.ofString "total" → z ≠ Str.ofString "k" → z ≠ Str.ofString "written" → M z = List.lookup z [(Str.ofString "picture", Value.str x tx)].reverse) : M = smap M wr twr k tk x tx := by
  funext z
  unfold smap
  by_cases e1 : z = Str.ofString "depth"
  · simp only [if_pos e1]
  · by_cases e2 : z = Str.ofString "marks"
    · simp only [if_neg e1, if_pos e2]
    · by_cases e3 : z = Str.ofString "total"
      · simp only [if_neg e1, if_neg e2, if_pos e3]
      · simp only [if_neg e1, if_neg e2, if_neg e3]
        by_cases e4 : z = Str.ofString "k"
        · simp only [if_pos e4]; rw [e4]; exact h1
        · by_cases e5 : z = Str.ofString "written"
          · simp only [if_neg e4, if_pos e5]; rw [e5]; exact h2
          · simp only [if_neg e4, if_neg e5]; exact h3 z e1 e2 e3 e4 e5
theorem text_append (A : Nat → List Nat) : ∀ a b : List Tk, text A (a ++ b) = text A a ++ text A b
  | [], _ => rfl
  | .chr c :: r, b => by simp only [List.cons_append, text, text_append A r b]
  | .run n :: r, b => by simp only [List.cons_append, text, text_append A r b, List.append_assoc]
theorem not_mark {x : Str} {k : Nat} (h : (k : Int) < x.length) (hm : (Builtin.Str.occurrences (Str.ofString "0123") (Txt.item x k) 0 (Str.ofString "0123").length 1).isEmpty = true) : isM (x.cps.getD k 0) = false := by
  rw [item_one h, one_in] at hm
  simpa using hm
theorem is_mark {x : Str} {k : Nat} (h : (k : Int) < x.length) (hm : (Builtin.Str.occurrences (Str.ofString "0123") (Txt.item x k) 0 (Str.ofString "0123").length 1).isEmpty = false) : isM (x.cps.getD k 0) = true := by
  rw [item_one h, one_in] at hm
  simpa using hm
theorem pow_le {j : Nat} (h : j ≤ 3) : 3 ^ j ≤ 27 := by
  have : ∀ j < 4, 3 ^ j ≤ 27 := by decide
  exact this j (by omega)
theorem smap2_more (u : Str → Option Value) (wr : Str) (twr : Tok) (k₀ : Nat) (tk₀ : Tok) (x : Str) (tx : Tok) (k : Nat) (tk : Tok) (tot : Nat) (tt : Tok) (K T : Int) (tk' tt' : Tok) {k' tot' : Nat} (hk : K = (k' : Int)) (ht : T = (tot' : Int)) :
    (fun y => if y = Str.ofString "k" then some (Value.int K tk') else if y = Str.ofString "total" then some (Value.int T tt') else smap2 u wr twr k₀ tk₀ x tx k tk tot tt y) = smap2 u wr twr k₀ tk₀ x tx k' tk' tot' tt' := by
  subst hk ht
  funext z
  unfold smap2
  by_cases h1 : z = Str.ofString "k"
  · simp only [if_pos h1]
  · by_cases h2 : z = Str.ofString "total"
    · simp only [if_neg h1, if_pos h2]
    · simp only [if_neg h1, if_neg h2]
theorem isM_le {c : Nat} (hc : isM c = true) : c - 48 ≤ 3 := by
  unfold isM at hc
  rw [Bool.and_eq_true, decide_eq_true_eq, decide_eq_true_eq] at hc
  omega
theorem int_item1 {x : Str} {k : Nat} (h : k + 1 < x.length) (hc : isM (x.cps.getD (k + 1) 0) = true) : PySem.intText? (Txt.item x ((k : Int) + 1)) = some ((x.cps.getD (k + 1) 0 - 48 : Nat) : Int) := by
  have e : Txt.item x ((k : Int) + 1) = ⟨#[x.cps.getD (k + 1) 0]⟩ := item_one (k := k + 1) (by omega)
  rw [e]
  generalize x.cps.getD (k + 1) 0 = c at *
  have : c = 48 ∨ c = 49 ∨ c = 50 ∨ c = 51 := by simp [isM] at hc; omega
  rcases this with rfl | rfl | rfl | rfl <;> decide +kernel
section
variable {prog : Program} {w : World} {A : Around} {E : Value → Shared → Prop} {s : Shared} {h₀ : Heap} {L : Addr} {m : Str → Option Value} {news : List (Addr × Obj)}
theorem mulOne {l : Addr} {v : Value} {k : Nat} {x : Int} {n : Nat} {u : Tok} {Q : Value → Shared → Prop} (F : Fr h₀ L s.heap m) (N : News h₀ L s.heap news) (hl : (l, W.listOf #[v] k) ∈ news) (hx : x = (n : Int)) (hn : n ≤ 3000000)
    (h : ∀ D h', Fr h₀ L h' m → News h₀ L h' ((D, listObj (List.replicate n v) 0) :: news) → (∀ p ∈ news, p.1 < D) → Q (.ref D) { s with heap := h' }) :
    wpAny (model prog w) A (binaryOp .Mult (.ref l) (.int x u)) Q E s := by
  subst hx
  refine mul_list F N (N _ hl).1 (by omega) (by omega) (by simp; omega) fun h' F' N' => ?_
  refine h _ h' F' ?_ fun p hp => Heap.lt_size (N p hp).1
  have e : (List.foldl (fun x1 x2 => x1 ++ x2) #[] (List.replicate (if (#[v] : Array Value).isEmpty = true then 0 else ((n : Int)).toNat) #[v])) = (List.replicate n v).toArray := by
    rw [listMul_foldl_if, Int.toNat_natCast]
    congr 1
    induction n with
    | zero => rfl
    | succ n ih => simp [List.replicate_succ]
  rw [e] at N'
  exact N'
theorem addL {l b : Addr} {vs ws : List Value} {Q : Value → Shared → Prop} (F : Fr h₀ L s.heap m) (N : News h₀ L s.heap news) (hl : s.heap.IsList l vs.toArray) (hb : s.heap.IsList b ws.toArray) (hsz : vs.length + ws.length ≤ 16777216)
    (h : ∀ D h', Fr h₀ L h' m → News h₀ L h' ((D, listObj (vs ++ ws) 0) :: news) → (∀ p ∈ news, p.1 < D) → Q (.ref D) { s with heap := h' }) :
    wpAny (model prog w) A (binaryOp .Add (.ref l) (.ref b)) Q E s :=
  add_lists F N hl hb (fun h' F' N' => h _ h' F' N' fun p hp => Heap.lt_size (N p hp).1) (by simp only [sizeLine_eq]; omega)
theorem divN {a : Nat} {b : Int} {t u : Tok} {Q : Value → Shared → Prop} (n : Nat) (hb : b = (n : Int)) (hn : n ≠ 0) (hn2 : n ≤ 27) (h : ∀ t' k, Q (.int ((a / n : Nat) : Int) t') { s with toks := k }) : wpAny (model prog w) A (binaryOp .FloorDiv (.int (a : Int) t) (.int b u)) Q E s := by
  subst hb
  refine floordiv_int (by omega) ?_ (Or.inl (PyProof.noPylong_small (by omega)))
  rw [Int.fdiv_eq_ediv_of_nonneg _ (by omega)]
  have := h s.toks (s.toks + 1)
  rwa [Int.natCast_ediv] at this
theorem modN {a : Nat} {b : Int} {t u : Tok} {Q : Value → Shared → Prop} (n : Nat) (hb : b = (n : Int)) (hn : n ≠ 0) (h : ∀ t' k, Q (.int ((a % n : Nat) : Int) t') { s with toks := k }) : wpAny (model prog w) A (binaryOp .Mod (.int (a : Int) t) (.int b u)) Q E s := by
  subst hb
  refine mod_int' (by omega) ?_
  rw [Int.fmod_eq_emod_of_nonneg _ (by omega)]
  have := h s.toks (s.toks + 1)
  rwa [Int.natCast_emod] at this
end
local macro_rules | `(tactic| walk_at "binaryOp FloorDiv int int") => `(tactic| (first | (refine divN 27 (by decide) (by decide) (by decide) ?_; intro tD kD) | (refine divN 9 (by decide) (by decide) (by decide) ?_; intro tD kD) | (refine divN 3 (by decide) (by decide) (by decide) ?_; intro tD kD) | (refine divN 1 (by decide) (by decide) (by decide) ?_; intro tD kD)))
local macro_rules | `(tactic| walk_at "binaryOp Mod int int") => `(tactic| (first | (refine modN 27 (by decide) (by decide) ?_; intro tD kD) | (refine modN 9 (by decide) (by decide) ?_; intro tD kD) | (refine modN 3 (by decide) (by decide) ?_; intro tD kD) | (refine modN 1 (by decide) (by decide) ?_; intro tD kD)))
local macro_rules | `(tactic| walk_at "binaryOp Mult ref int") => `(tactic| (refine mulOne (by assumption) (by assumption) (by k_mem) rfl ?hn ?_; (case hn => omega); intro D' h' F' N' l1; (try k_lt l1)))
local macro_rules | `(tactic| walk_at "binaryOp Add ref ref") => `(tactic| (refine addL (by assumption) (by assumption) (News.isList (by assumption) (by k_mem)) (News.isList (by assumption) (by k_mem)) ?hn ?_; (case hn => (simp only [List.length_append, List.length_replicate, List.length_nil]; omega)); intro D' h' F' N' l1; (try k_lt l1)))
theorem strsAre_app {vs ws : List Value} {xs ys : List Str} (h : StrsAre vs xs) (h' : StrsAre ws ys) : StrsAre (vs ++ ws) (xs ++ ys) := by
  induction h with
  | nil => exact h'
  | cons x t _ ih => exact .cons x t ih
theorem strsAre_rep (n : Nat) (x : Str) (t : Tok) : StrsAre (List.replicate n (.str x t)) (List.replicate n x) := by
  induction n with
  | zero => exact .nil
  | succ n ih => exact .cons x t ih
noncomputable def marksS (tot : Nat) : List Str := ((([] ++ List.replicate (tot / 27) (mark 3)) ++ List.replicate (tot % 27 / 9) (mark 2)) ++ List.replicate (tot % 27 % 9 / 3) (mark 1)) ++ List.replicate (tot % 27 % 9 % 3 / 1) (mark 0)
theorem marksS_len (tot : Nat) : (marksS tot).length ≤ tot := by
  simp only [marksS, List.length_append, List.length_replicate, List.length_nil]
  omega
theorem marksS_one (tot : Nat) : ∀ y ∈ marksS tot, y.length ≤ 1 := by
  intro y hy
  simp only [marksS, List.mem_append, List.not_mem_nil, false_or] at hy
  rcases hy with ((hy | hy) | hy) | hy <;> (rw [List.eq_of_mem_replicate hy]; exact Nat.le_refl 1)
theorem marksS_ok {tot : Nat} (h : tot ≤ 2700000) : JoinOk (Str.ofString "\"") (marksS tot) = true := by
  unfold JoinOk
  have h1 := marksS_len tot
  have h2 : (Str.ofString "\"").length = 1 := by decide +kernel
  rw [StrLaws.joinFits (B := 1) (marksS_one tot) (by rw [h2]; omega)]
  rfl
theorem marksS_str (tot : Nat) (t3 t2 t1 t0 : Tok) : StrsAre (((([] ++ List.replicate (tot / 27) (Value.str (mark 3) t3)) ++ List.replicate (tot % 27 / 9) (.str (mark 2) t2)) ++ List.replicate (tot % 27 % 9 / 3) (.str (mark 1) t1)) ++ List.replicate (tot % 27 % 9 % 3 / 1) (.str (mark 0) t0)) (marksS tot) :=
  strsAre_app (strsAre_app (strsAre_app (strsAre_app .nil (strsAre_rep _ _ _)) (strsAre_rep _ _ _)) (strsAre_rep _ _ _)) (strsAre_rep _ _ _)
theorem join_wov (sep : Str) (hs : lst sep = [34]) : ∀ (l : List Str) (ns : List Nat), l.map lst = ns.map (fun c => [c]) → lst (Str.join sep l) = wov ns
  | [], [], _ => rfl
  | [a], [c], h => by
    have h' : lst a = [c] := by simpa using h
    exact h'
  | a :: b :: r, c :: d :: ns, h => by
    have h1 := (List.cons.inj h).1
    have h2 := (List.cons.inj h).2
    rw [join_cons _ _ _ (List.cons_ne_nil _ _), join_wov sep hs (b :: r) (d :: ns) h2, h1, hs]
    rfl
  | [], _ :: _, h => by simp at h
  | _ :: _, [], h => by simp at h
  | [_], _ :: _ :: _, h => by simp at h
  | _ :: _ :: _, [_], h => by simp at h
theorem marksS_join (tot : Nat) : lst (Txt.join (Str.ofString "\"") (marksS tot)) = wov (A0 tot) := by
  show lst (Builtin.Str.glued _ _) = _
  rw [StrLaws.glued_eq_join]
  refine join_wov _ d34 _ _ ?_
  simp [marksS, A0, mark_lst]
theorem wov_len : ∀ l : List Nat, (wov l).length ≤ 2 * l.length
  | [] => Nat.le_refl _
  | [a] => by simp [wov]
  | a :: b :: r => by
    have := wov_len (b :: r)
    simp only [wov, List.length_cons] at this ⊢
    omega
theorem A0_len (tot : Nat) : (A0 tot).length ≤ tot := by
  simp only [A0, List.length_append, List.length_replicate]
  omega
theorem join_len {tot : Nat} (h : tot ≤ 2700000) : (Txt.join (Str.ofString "\"") (marksS tot)).length ≤ 2 * tot := by
  rw [← lst_length, marksS_join]
  have := wov_len (A0 tot)
  have := A0_len tot
  omega
local macro_rules | `(tactic| walk_at "call builtin:str.join") => `(tactic| (refine joinList (News.isList (by assumption) (by k_mem)) (marksS_str _ _ _ _ _) (marksS_ok (by assumption)) ?_; intro tJ kJ))
local macro_rules | `(tactic| walk_at "pyIter ref") => `(tactic| ((rename Fr _ _ _ _ => lF'); (rename News _ _ _ _ => lN'); (with_unfolding_all refine iter_listUnr (by assumption) lF' lN' (by k_mem) (by rfl) (by rfl) ?_); clear lF'; intro i' l1; (try k_lt l1)))
local macro_rules | `(tactic| walk_at "call type:int") => `(tactic| (refine KIN.call_text (int_item1 (by assumption) (by assumption)) (item_len1 _ _) ?_))
local macro_rules | `(tactic| walk_at "binaryOp Pow int int") => `(tactic| (refine powS (isM_le (by assumption)) ?_; intro tP kP))
local macro_rules | `(tactic| walk_at "call type:int") => `(tactic| (refine KIN.call_text (int_item (by assumption) (by assumption)) (item_len1 _ _) ?_))
local macro_rules | `(tactic| walk_at "binaryOp Pow int int") => `(tactic| (refine powS (mark_sub (by assumption) (by assumption)) ?_; intro tP kP))
local macro_rules | `(tactic| walk_at "subscriptTail") => `(tactic| ((with_reducible show wpAny _ _ (subscriptTail _ _ (Value.str (Str.ofString "0123") _) (Value.int _ _)) _ _ _); (first | (refine item0123 (k := 3) (by decide) rfl ?_; intro tI kI) | (refine item0123 (k := 2) (by decide) rfl ?_; intro tI kI) | (refine item0123 (k := 1) (by decide) rfl ?_; intro tI kI) | (refine item0123 (k := 0) (by decide) rfl ?_; intro tI kI))))
local macro_rules | `(tactic| walk_at "subscriptTail_") => `(tactic| ((with_reducible show wpAny _ _ (subscriptTail _ _ (Value.str _ _) (Value.int _ _)) _ _ _); (refine itemS ?hi0 ?hi1 ?hi2 ?_; (case hi0 => omega); (case hi1 => omega); (case hi2 => omega)); intro tI kI; (try simp only [Int.toNat_natCast])))
local macro_rules | `(tactic| walk_at "binaryOp Add str str") => `(tactic| (refine add_str ?_ ?hsz; (case hsz => (first | (simp only [Str.length_append, sizeLine_eq]; omega) | (have := join_len (by assumption); simp only [sizeLine_eq]; omega))); intro tB kB))
set_option maxRecDepth 100000 in
set_option maxHeartbeats 4000000 in
theorem summed_spec {w : World} {mg mb : Str → Option Value} {A : Around} {s : Shared} (x : Str) (tx : Tok) {Q E : Value → Shared → Prop}
   (X : (hd.heap_39 w.params).In s.heap) (T : TopRead hd.view_39 LO mg mb s.heap) (hh : A.handled = none) (hdp : A.depth + 3 < recursionLimit) (hu : A.units + 20 < cLine) (hx : x.length ≤ 100000)
   (hQ : ∀ r h' tk tk' done, Par (lst x) done → lst r = text A0 done → (∀ b o, s.heap.get? b = some o → h'.get? b = some o) → Q (.str r tk') { s with heap := h', toks := tk }) :
   wpAny (model Challenge.rw_mj0033_01.row.prog w) A (call (.ref 89) [.str x tx]) Q E s := by
  revert X; k_fill; intro X
  refine wpAny_call ?_
  refine' enterK (binds := [(Str.ofString "picture", .str x tx)]) X T.nolimit ?k6 ?k7 (by omega) ?k9 ?kB ?_ ?c2 ?c3 ?c4 ?c5
  (case k6 => k_is)
  (case k7 => k_is)
  (case k9 => exact BindsTo.of_eq rfl)
  (case kB => exact locs rfl)
  (case c2 => exact rfl)
  (case c3 => exact rfl)
  (case c4 => exact rfl)
  (case c5 => decide)
  intro L h₁ F N X
  (try k_fold)
  repeat' (first
    | ((fail_if_success (with_reducible show wpAny _ _ (exec (Stmt.While _ _ _ _) _) _ _ _)); (first | (k_unfold; (try dsimp only)) | walk1 | (dsimp only; walk1)))
    | fail "no step")
  rename_i h2' h' F' N'
  refine While_invQ (fun n m => ∃ k wr twr tk done u, m = smap u wr twr k tk x tx ∧ k ≤ x.length ∧ n = x.length - k ∧ lst wr = text A0 done ∧ (∀ ts, Par ((lst x).drop k) ts → Par (lst x) (done ++ ts)) ∧ wr.length ≤ 54 * k)
    (fun m => ∃ k wr twr tk done u, m = smap u wr twr k tk x tx ∧ lst wr = text A0 done ∧ Par (lst x) done ∧ wr.length ≤ 5400000) (n₀ := x.length) F' N' ⟨0, _, _, _, [], _, smap_start _ _ _ _ _, Nat.zero_le _, rfl, by decide +kernel, fun ts h => by simpa using h, by decide +kernel⟩ ?_ ?_
  · rintro n m₁ h₂ tk₂ Qn Qe F₁ N₁ ⟨k, wr, twr, tkk, done, u, rfl, hk, rfl, hwr, hpar, hlen⟩ hQn hQe
    unfold smap at F₁
    clear F' N'
    repeat' (first
      | ((fail_if_success (with_reducible show wpAny _ _ (exec (Stmt.While _ _ _ _) _) _ _ _)); (first | (k_unfold; (try dsimp only)) | walk1 | (dsimp only; walk1)))
      | fail "no step")
    · rename_i hlt _ _ hmk _ _ _ _ _ _ _ _ _
      have hlt' : k < x.length := by omega
      have hc : isM (x.cps.getD k 0) = false := not_mark (by assumption) (by assumption)
      have e1 := item_one (x := x) (k := k) (by assumption)
      refine hQn _ _ _ (x.length - (k + 1)) .cont (by assumption) (by assumption) (by omega) ⟨k + 1, _, _, _, done ++ [.chr (x.cps.getD k 0)], u, smap_cont u wr twr k tkk x tx _ _ _ _ rfl, by omega, rfl, ?_, ?_, ?_⟩ (.inr rfl)
      · rw [lst_append, hwr, text_append, e1]; rfl
      · intro ts hts
        rw [List.append_assoc]
        exact hpar _ (by rw [drop_of_lt hlt']; exact .chr hc hts)
      · rw [Str.length_append, e1]
        show wr.length + 1 ≤ _
        omega
    · rename_i hlt _ _ hmk _ _ _ _ _ h4 F' N'
      have hlt' : k < x.length := by omega
      have hc : isM (x.cps.getD k 0) = true := is_mark hlt hmk
      refine While_invQ (fun n m => ∃ k' tkk' tot tt, m = smap2 u wr twr k tkk x tx k' tkk' tot tt ∧ k + 1 ≤ k' ∧ k' ≤ x.length ∧ n = x.length - k' ∧ (∀ N r, Ch tot ((lst x).drop k') N r → Ch (3 ^ (x.cps.getD k 0 - 48)) ((lst x).drop (k + 1)) N r) ∧ tot ≤ 27 * (k' - k))
        (fun m => ∃ k' tkk' tot tt, m = smap2 u wr twr k tkk x tx k' tkk' tot tt ∧ k + 1 ≤ k' ∧ k' ≤ x.length ∧ Ch (3 ^ (x.cps.getD k 0 - 48)) ((lst x).drop (k + 1)) tot ((lst x).drop k') ∧ tot ≤ 27 * (k' - k))
        (n₀ := x.length - (k + 1)) F' N' ⟨k + 1, _, _, _, rfl, Nat.le_refl _, by omega, rfl, fun N r h => h, by have := pow_le (isM_le hc); omega⟩ ?_ ?_
      · rintro n m₁ h₂ tk₂ Qn₂ Qe₂ F₁ N₁ ⟨k', tkk', tot, tt, rfl, hk1, hk2, rfl, hch, htot⟩ hQn₂ hQe₂
        unfold smap2 smap at F₁
        clear F' N'
        repeat' (first | (k_unfold; (try dsimp only)) | walk1 | (dsimp only; walk1) | fail "no step")
        · obtain ⟨hb1, hb2, hb3⟩ := test_true (x := x) (k := k') (by assumption) (by assumption)
          have hb1' : ((k' : Int) + 1) < x.length := by omega
          repeat' (first | (k_unfold; (try dsimp only)) | walk1 | (dsimp only; walk1) | fail "no step")
          refine hQn₂ _ _ _ (x.length - (k' + 2)) .next (by assumption) (News.sub (by assumption) (by simp)) (by omega) ⟨k' + 2, _, tot + 3 ^ (x.cps.getD (k' + 1) 0 - 48), _, smap2_more u wr twr k tkk x tx _ _ _ _ _ _ _ _ rfl rfl, by omega, by omega, rfl, ?_, ?_⟩ (.inl rfl)
          · intro N r h
            refine hch N r ?_
            rw [hb3]
            exact .more hb2 h
          · have := pow_le (isM_le hb2); omega
        · exact hQe₂ _ _ _ (by assumption) (News.sub (by assumption) (by simp)) ⟨k', tkk', tot, tt, rfl, hk1, hk2, hch _ _ (.stop (stop2 (by assumption))), htot⟩
        · exact hQe₂ _ _ _ (by assumption) (News.sub (by assumption) (by simp)) ⟨k', tkk', tot, tt, rfl, hk1, hk2, hch _ _ (.stop (stop1 (by assumption))), htot⟩
      · rintro h₂ tk₂ m₂ F₁ N₁ ⟨k', tkk', tot, tt, rfl, hk1, hk2, hch, htot⟩
        have htot2 : tot ≤ 2700000 := by omega
        unfold smap2 smap at F₁
        clear F' N'
        repeat' (first
          | ((fail_if_success (with_reducible show wpAny _ _ (exec (Stmt.For _ _ _ _ _) _) _ _ _)); (first | (k_unfold; (try dsimp only)) | walk1 | (dsimp only; walk1)))
          | fail "no step")
        refine For_invV s.heap rfl rfl ?_
        repeat' (first | (k_unfold; (try dsimp only)) | walk1 | (dsimp only; walk1) | fail "no step")
        have hjl := join_len htot2
        refine hQn _ _ _ (x.length - k') .next (by assumption) (News.sub (by assumption) (by simp)) (by omega) ⟨k', _, _, _, done ++ [.run tot], _, smap_of rfl rfl (by intro z e1 e2 e3 e4 e5; simp only [if_neg e1, if_neg e2, if_neg e3, if_neg e4, if_neg e5]), by omega, rfl, ?_, ?_, ?_⟩ (.inl rfl)
        · rw [lst_append, hwr, text_append, marksS_join]; simp [text]
        · intro ts hts
          rw [List.append_assoc]
          exact hpar _ (by rw [drop_of_lt hlt']; exact .run hc hch hts)
        · rw [Str.length_append]; omega
    · have hke : k = x.length := by omega
      exact hQe _ _ _ (by assumption) (by assumption) ⟨k, wr, twr, tkk, done, u, rfl, hwr, by simpa using hpar [] (by rw [List.drop_eq_nil_of_le (by rw [lst_length]; omega)]; exact .nil), by omega⟩
  · rintro h₂ tk₂ m₂ F₁ N₁ ⟨k, wr, twr, tkk, done, u, rfl, hwr, hpar, hlen⟩
    unfold smap at F₁
    clear F' N'
    repeat' (first | (k_unfold; (try dsimp only)) | walk1 | (dsimp only; walk1) | fail "no step")
    exact hQ _ _ _ _ done hpar hwr F₁.keep
end Mine
end

section
open PySem PySem.W PyProof.Rows PySem.Calls
namespace Mine
/-- entering a def of the written part whose surplus arguments make a tuple -/
theorem enterV {w : World} {A : Around} {s : Shared} {K : Frag}
    {R : Result → Shared → Prop} {name qual : Str} {params : Arguments} {body : List Stmt} {scope : Scope} {dV kV doc pm cdv ct oc : Value} {an od : Option Addr} {osl : Array (Option Value)} {f : Addr} {args : Args} {vs : List Value} {binds : Value → List (Str × Value)}
    (X : K.In s.heap) (hlim : s.heap.NoLimit)
    (ho : K.lookup f = some ⟨oc, od, .func (fnOf name qual params body scope dV kV doc pm an cdv ct), osl⟩) (hcd : codeIn K cdv qual = true) (hroom : A.depth < recursionLimit)
    (hbind : bindArgs (fnOf name qual params body scope dV kV doc pm an cdv ct) args = newTuple vs >>= fun v => pure (binds v)) (hvs : vs.length ≤ 100) (hloc : ∀ v, ∀ y ∈ binds v, scope.names.lookup y.1 = some .local)
    (h : ∀ L h₁ D, Fr s.heap L h₁ (fun y => (binds (.ref D)).reverse.lookup y) → News s.heap L h₁ [(D, tupObj vs 0)] → K.In s.heap →
      wpAny (model PR w) (A.deeper (envOf qual scope L f cdv)) (execs body (envOf qual scope L f cdv))
        (fun fl s' => R (.ok (.ret (match fl with | .ret v => v | _ => .none))) s')
        (fun _ _ => False)
        { s with heap := h₁, toks := s.toks + (binds (.ref D)).length })
    (hco : scope.isCoroutine = false := by rfl) (hgen : scope.isGenerator = false := by rfl) (hk : scope.kind = .function := by rfl)
    (hcell : ∀ x ∈ scope.names, x.2 ≠ .cell := by decide) : codeAny (model PR w) A (.call (.ref f) args) R s := by
  refine codeAny_call_function (fd := fnOf name qual params body scope dV kV doc pm an cdv ct) (body := body) hroom (X _ _ ho) rfl hco hgen rfl (codeRec_of X hcd) ?_
  rw [hbind]
  refine wpAny_bind (wpAny_newTuple (wpAny_pure ?_) (by rw [sizeLine_eq]; omega))
  have hlim' : (s.heap.push (tupObj vs 0)).NoLimit := hlim.push _
  refine wpAny_newFunctionEnv hcell (hloc _) (fun h₀ hns₀ hsb₀ => ⟨hlim'.fresh _ hsb₀, codeAny_func ?_⟩) hk
  have hk₁ : ∀ b o, (s.heap.push (tupObj vs 0)).get? b = some o → h₀.get? b = some o := fun b o e => hsb₀.extBut b o (Nat.ne_of_lt (Heap.lt_size e)) (Heap.get?_push_of_some _ e)
  refine wpAny_mono (h _ h₀ _ ⟨hns₀, fun b o e => hk₁ b o (Heap.get?_push_of_some _ e), ?_⟩ ?_ X) (fun _ _ x => x) (fun _ _ x => x.elim)
  · show s.heap.objs.size ≤ (s.heap.push (tupObj vs 0)).objs.size
    rw [show (s.heap.push (tupObj vs 0)).objs.size = s.heap.objs.size + 1 from Array.size_push ..]
    exact Nat.le_succ _
  · intro p hp
    rw [List.mem_singleton.mp hp]
    refine ⟨hk₁ _ _ (Heap.get?_push_size _ rfl), ?_, ?_⟩
    · show s.heap.objs.size ≠ (s.heap.push (tupObj vs 0)).objs.size
      rw [show (s.heap.push (tupObj vs 0)).objs.size = s.heap.objs.size + 1 from Array.size_push ..]
      exact Nat.ne_of_lt (Nat.lt_succ_self _)
    · exact Heap.get?_none_of_le (Nat.le_refl _)

section
variable {prog : Program} {w : World} {A : Around} {E : Value → Shared → Prop} {s : Shared} {h₀ : Heap} {L : Addr} {m : Str → Option Value} {news : List (Addr × Obj)}
theorem sliceTup2 {value slice : Expr} {t : Addr} {v1 v2 : Value} {vs : List Value} {u : Tok} {Q : Value → Shared → Prop}
    (F : Fr h₀ L s.heap m) (N : News h₀ L s.heap news) (ht : (t, tupObj (v1 :: v2 :: vs) 0) ∈ news) (hsz : vs.length ≤ 100)
    (h : ∀ D h', Fr h₀ L h' m → News h₀ L h' ((D, tupObj vs 0) :: news) → (∀ p ∈ news, p.1 < D) → Q (.ref D) { s with heap := h' })
    (hs : subscripted slice false (.ref t) (.ref s.heap.objs.size) = operate [.ref s.heap.objs.size, .ref t] (getItem (.ref t) (.ref s.heap.objs.size)) := by with_unfolding_all rfl)
    (hg : ∀ r, letTemporaryGo value (.ref t) r = pure () := by intro _; with_unfolding_all rfl) :
    wpAny (model prog w) A (subscriptTail value slice (.ref t) (.ref s.heap.objs.size)) Q E { s with heap := s.heap.push { cls := .type "slice", data := .fields #[.int 2 u, .none, .none] } } :=
  slice_tuple_from (a := 2) (items := (v1 :: v2 :: vs).toArray) F N ⟨_, (N _ ht).1, rfl, _, rfl⟩ (by decide) (by simp) (fun h' F' N' => h _ h' F' N' fun p hp => Nat.lt_succ_of_lt (Heap.lt_size (N p hp).1)) hs hg (by rw [sizeLine_eq]; simp; omega)
end
local macro_rules | `(tactic| walk_at "subscriptTail Name Slice ref ref") => `(tactic| (refine sliceTup2 (by assumption) (by assumption) (by k_mem) (Nat.le_of_ble_eq_true rfl) ?_; intro D' h' F' N' l1; (try k_lt l1)))
local macro_rules | `(tactic| walk_at "subscriptTail") => `(tactic| ((with_reducible show wpAny _ _ (subscriptTail _ _ (Value.ref _) (Value.ref _)) _ _ _); refine sliceTup2 (by assumption) (by assumption) (by k_mem) (Nat.le_of_ble_eq_true rfl) ?_; intro D' h' F' N' l1; (try k_lt l1)))
local macro_rules | `(tactic| walk_at "call builtin:str.split") => `(tactic| (refine KSpl.split1 (by assumption) (by assumption) (by assumption) ?_ (by assumption); intro D' l' h' k' e' a' F' N' l1; (try k_lt l1); rw [e'] at a'; clear e'))
local macro_rules | `(tactic| walk_at "call builtin:str.join") => `(tactic| (refine joinList (News.isList (by assumption) (by k_mem)) (by assumption) (by assumption) ?_; intro tJ kJ))
set_option maxRecDepth 100000 in
set_option maxHeartbeats 4000000 in
theorem replace_spec {w : World} {mg mb : Str → Option Value} {A : Around} {s : Shared} (x p0 n0 p1 n1 p2 n2 p3 n3 : Str) (tx t0 u0 t1 u1 t2 u2 t3 u3 : Tok) {Q E : Value → Shared → Prop}
   (X : (hd.heap_39 w.params).In s.heap) (T : TopRead hd.view_39 LO mg mb s.heap) (hh : A.handled = none) (hdp : A.depth + 3 < recursionLimit) (hu : A.units + 20 < cLine)
   (e0 : (p0.length == 0) = false) (e1 : (p1.length == 0) = false) (e2 : (p2.length == 0) = false) (e3 : (p3.length == 0) = false)
   (z0 : x.length + 2 ≤ sizeLine) (z1 : (replS x p0 n0).length + 2 ≤ sizeLine) (z2 : (replS (replS x p0 n0) p1 n1).length + 2 ≤ sizeLine) (z3 : (replS (replS (replS x p0 n0) p1 n1) p2 n2).length + 2 ≤ sizeLine)
   (j0 : JoinOk n0 (Txt.split x p0) = true) (j1 : JoinOk n1 (Txt.split (replS x p0 n0) p1) = true) (j2 : JoinOk n2 (Txt.split (replS (replS x p0 n0) p1 n1) p2) = true) (j3 : JoinOk n3 (Txt.split (replS (replS (replS x p0 n0) p1 n1) p2 n2) p3) = true)
   (hQ : ∀ r h' tk tk', r = replS (replS (replS (replS x p0 n0) p1 n1) p2 n2) p3 n3 → (∀ b o, s.heap.get? b = some o → h'.get? b = some o) → Q (.str r tk') { s with heap := h', toks := tk }) :
   wpAny (model Challenge.rw_mj0033_01.row.prog w) A (call (.ref 38) [.str x tx, .str p0 t0, .str n0 u0, .str p1 t1, .str n1 u1, .str p2 t2, .str n2 u2, .str p3 t3, .str n3 u3]) Q E s := by
  unfold replS at *
  revert X; k_fill; intro X
  refine wpAny_call ?_
  refine' enterV (binds := fun v => [(Str.ofString "text", .str x tx), (Str.ofString "pairs", v)]) (vs := [.str p0 t0, .str n0 u0, .str p1 t1, .str n1 u1, .str p2 t2, .str n2 u2, .str p3 t3, .str n3 u3]) X T.nolimit ?k6 ?k7 (by omega) ?k9 ?kV ?kB ?_ ?c2 ?c3 ?c4 ?c5
  (case k6 => k_is)
  (case k7 => k_is)
  (case k9 => rfl)
  (case kV => exact Nat.le_of_ble_eq_true rfl)
  (case kB => intro v; exact locs rfl)
  (case c2 => exact rfl)
  (case c3 => exact rfl)
  (case c4 => exact rfl)
  (case c5 => decide)
  intro L h₁ D F N X
  (try k_fold)
  repeat' (first | (k_unfold; (try dsimp only)) | walk1 | (dsimp only; walk1) | fail "no step")
  exact hQ _ _ _ _ rfl (Fr.keep (by assumption))
end Mine
end

section
open PySem PySem.W PyProof.Rows PySem.Calls
namespace Mine
noncomputable def LawTells : Prop := ∀ {w : World} {mg mb : Str → Option Value} {bm : Addr} {ob : Obj} {ps : Array Value} {A : Around} {s : Shared} {l : Addr} {vs : List Value} {ns : List Int} {Q E : Value → Shared → Prop},
  Gd w mg mb bm ob s.heap ps → A.handled = none → A.depth + 20 < recursionLimit → A.units + 100 < cLine → AllBare s.gens → s.heap.IsList l vs.toArray → IntsAre vs ns → ns.length ≤ 63 →
  (∀ s', Tr45 ps s s' → Q (.bool true) s') → wpAny (model Challenge.rw_mj0033_01.row.prog w) A (call (.ref 94) [.ref l]) Q E s

theorem bare_of_nil {g : Array GenState} (h : g = #[]) : AllBare g := AllBare.of_eq h
set_option maxRecDepth 100000 in
set_option maxHeartbeats 8000000 in
theorem top_close (LS : LawTells) : PySem.Challenge.rw_mj0033_01.Holds := by
  refine hd ?_
  k_fill
  intro w s₀ s₁ mg mb G Y fa o pm cd doc dV kV ho hd hcd hD hmg hg args vals as hpre hlay hrd hwl hlo
  have KX := kIn_of Y
  have X := (Ground.X G).1
  have V := (Ground.X G).2
  refine Ground.open G ?_
  intro T B D TE TW
  try (refine guard_noD D (by decide +kernel) ?_; clear D)
  wrow_args hpre hlay hrd hwl hlo
  have e94 : mg (Str.ofString "law") = some (.ref 94) := mg_of KX T.g rfl
  have efa : fa = 94 := by
    have := (show mg (Str.ofString "law") = some (.ref fa) from hmg).symm.trans e94
    injection this with this; injection this
  subst efa
  obtain ⟨bm, ob, M⟩ := bmod_of_top T
  have e50 : mg (Str.ofString "join") = some (.ref 50) := mg_of KX T.g rfl
  clear hmg e94 G Y ho hcd hD hd pm cd doc dV kV o X V B TE TW
  obtain ⟨c, P, hcP, BB⟩ := based_of_top T (name := Str.ofString "join") rfl e50 (KX 50 _ rfl) rfl
  have hc : c = 49 := by injection hcP with h; exact h.symm
  subst hc
  have hP : P = 45 := by
    obtain ⟨⟨o', vs', h1, _, h3, h4⟩, _⟩ := BB.tab
    have h5 := (KX 49 _ rfl).symm.trans h1
    cases h5
    cases h3
    injection h4 with h4; injection h4 with h4; exact h4.symm
  subst hP
  have g : Gd w mg mb bm ob s₁.heap #[] := ⟨KX, topRead_of T, M, ⟨BB.code, BB.tab⟩⟩
  refine LS g rfl (by decide) (by decide) (AllBare.of_eq hg) (by assumption) (by assumption) (by omega) ?_
  intro s' tr
  obtain ⟨more, tab⟩ := tr.tab
  refine ⟨.inl ⟨_, _, _, rfl, raisesW_false (by wrow_none_raised), .bool true, ?_, unshared_nil⟩, (OldK.refl _).step_table BB.tab BB.tab tab.tab tr.ext BB.notStatics, tr.os, tr.bare⟩
  exact postW_of (by wrow_shape) (by wtm_val) (by first | rfl | decide | (str_meet; first | done | w_fin))
end Mine
end

section
open PySem PySem.W PyProof.Rows
namespace Mine
theorem szT_pos : ∀ t : Tr, 1 ≤ szT t
  | .leaf x => by rw [szT]; omega
  | .node ts => by rw [szT]; omega
/-- the bound of the words by the size and the depth -/
theorem Bs_le (k : Nat) : ∀ ts : List Tr, (∀ t ∈ ts, B t ≤ k * szT t) → Bs ts ≤ (6 * k + 8) * szs ts
  | [], _ => by simp [Bs]
  | t :: ts, h => by
    have h1 := Bs_le k ts fun u hu => h u (.tail _ hu)
    have h2 := h t (.head _)
    have h3 := szT_pos t
    rw [Bs, szs, Nat.mul_add, Nat.add_mul, Nat.mul_assoc]
    omega
theorem B_le0 (t : Tr) (h : dpt t ≤ 0) : B t ≤ 1 * szT t := by
  cases t with
  | leaf x => rw [B, szT]; omega
  | node ts => rw [dpt] at h; omega
theorem B_le1 (t : Tr) (h : dpt t ≤ 1) : B t ≤ 14 * szT t := by
  cases t with
  | leaf x => rw [B, szT]; omega
  | node ts =>
    rw [dpt] at h
    have := Bs_le 1 ts fun u hu => B_le0 u (by have := dpts_mem hu; omega)
    rw [B, szT]; omega
theorem B_le2 (t : Tr) (h : dpt t ≤ 2) : B t ≤ 92 * szT t := by
  cases t with
  | leaf x => rw [B, szT]; omega
  | node ts =>
    rw [dpt] at h
    have := Bs_le 14 ts fun u hu => B_le1 u (by have := dpts_mem hu; omega)
    rw [B, szT]; omega
theorem Bs_small {ts : List Tr} (h : dpts ts ≤ 2) (hz : szs ts + 1 ≤ 33) : Bs ts ≤ 17920 := by
  have := Bs_le 92 ts fun u hu => B_le2 u (by have := dpts_mem hu; omega)
  omega
theorem pics_sum (d : Nat) : ∀ ts : List Tr, (∀ t ∈ ts, (picS t d).1.length + 1 ≤ 3 * szT t) → (((picsS ts d).map (·.1)).map (·.length)).sum + ts.length ≤ 3 * szs ts
  | [], _ => by simp [picsS, szs]
  | t :: ts, h => by
    have h1 := pics_sum d ts fun u hu => h u (.tail _ hu)
    have h3 := h t (.head _)
    simp only [picsS, List.map_cons, List.sum_cons, List.length_cons, szs]
    omega
theorem pic_small : ∀ (t : Tr) (d : Nat), (picS t d).1.length + 1 ≤ 3 * szT t := Tr.ind (fun x d => by
    have := @wrap_len d (bareS x) (innerS x d)
    have := innerS_len x d
    simp only [picS, szT]; omega) fun ts ih d => by
  have h1 := pics_sum (d + 1) ts fun t ht => ih t ht (d + 1)
  have h2 := join_len_le ((picsS ts (d + 1)).map (·.1))
  have h3 := @wrap_len d (onlyS (picsS ts (d + 1))) (Txt.join (Str.ofString " ") ((picsS ts (d + 1)).map (·.1)))
  simp only [picS, szT]
  simp only [List.length_map, picsS_eq] at h1 h2 h3 ⊢
  omega
theorem pict_small {ts : List Tr} (hz : szs ts + 1 ≤ 33) : (pictS ts).length ≤ 96 := by
  have h1 := pics_sum 0 ts fun t _ => pic_small t 0
  have h2 := join_len_le ((picsS ts 0).map (·.1))
  unfold pictS
  simp only [List.length_map, picsS_eq] at h1 h2 ⊢
  omega
theorem line_small {ts : List Tr} (h : dpts ts ≤ 2) (hz : szs ts + 1 ≤ 33) : (lineS ts).length ≤ 17920 := by
  have h0 := Bs_small h hz
  have h1 := sum_quote_le ts fun t _ => wordS_len t
  have h2 := join_len_le ((wordsS ts).map quoteS)
  unfold lineS
  simp only [List.length_map, wordsS_eq] at h1 h2 ⊢
  omega
/-- the pieces of a split, and what stands between them -/
theorem split_size (x p : Str) : ((Txt.split x p).map (·.length)).sum + ((Txt.split x p).length - 1) * p.length = x.length ∧ 1 ≤ (Txt.split x p).length := by
  unfold Txt.split
  split
  · simp
  · split
    · simp
    · have hy : (Builtin.Str.glued p (Builtin.Str.partsBetween x (Builtin.Str.occurrences x p 0 x.length (x.length + 1)) p.length)).length = x.length := by rw [StrLaws.glued_between_self]
      rw [size_glued] at hy
      exact ⟨hy, by rw [length_partsBetween]; omega⟩
theorem repl_size (x p n : Str) : (replS x p n).length = ((Txt.split x p).map (·.length)).sum + ((Txt.split x p).length - 1) * n.length := by
  show (Builtin.Str.glued n (Txt.split x p)).length = _
  rw [size_glued]
theorem repl_grow {x p n : Str} (hp : p.length = 1) (hn : 1 ≤ n.length) : (replS x p n).length ≤ x.length * n.length := by
  obtain ⟨h1, _⟩ := split_size x p
  rw [repl_size, ← h1, hp, Nat.mul_one, Nat.add_mul]
  exact Nat.add_le_add_right (Nat.le_mul_of_pos_right _ hn) _
theorem repl_shrink {x p n : Str} (h : n.length ≤ p.length) : (replS x p n).length ≤ x.length := by
  obtain ⟨h1, _⟩ := split_size x p
  rw [repl_size]
  have := Nat.mul_le_mul_left ((Txt.split x p).length - 1) h
  omega
theorem repl_ok {x p n : Str} {a b : Nat} (hp : 1 ≤ p.length) (hx : x.length ≤ a) (hn : n.length ≤ b) (hab : a + (a + 1) * b ≤ 16777216) : JoinOk n (Txt.split x p) = true := by
  obtain ⟨h1, h2⟩ := split_size x p
  have h3 : (Txt.split x p).length - 1 ≤ ((Txt.split x p).length - 1) * p.length := Nat.le_mul_of_pos_right _ hp
  have h4 : (Txt.split x p).length * n.length ≤ (a + 1) * b := Nat.mul_le_mul (by omega) hn
  exact joinOk_le (by omega)
theorem tl_len (n : Nat) : (tl n).length = 2 * n := by
  induction n with
  | zero => rfl
  | succ n ih => simp [tl, ih]; omega
theorem row_len (k : Nat) : (rowS k).length = 2 * (3 ^ k - 1) + 1 := by
  rw [← lst_length, row_lst, List.length_cons, tl_len]
theorem row_len0 : (rowS 0).length = 1 := row_len 0
theorem row_len1 : (rowS 1).length = 5 := row_len 1
theorem row_len2 : (rowS 2).length = 17 := row_len 2
theorem row_len3 : (rowS 3).length = 53 := row_len 3
end Mine
end

section
open PySem PySem.W PyProof.Rows PySem.Calls
namespace Mine
theorem ints_get {vs : List Value} {ns : List Int} (h : IntsAre vs ns) (i : Nat) (v : Value) (hv : vs[i]? = some v) : ∃ x u, ns[i]? = some x ∧ v = .int x u := by
  have hi : i < ns.length := by rw [← h.length]; exact (List.getElem?_eq_some_iff.mp hv).1
  obtain ⟨t, ht⟩ := h.get i ns[i] (List.getElem?_eq_getElem hi)
  rw [hv] at ht
  exact ⟨ns[i], t, List.getElem?_eq_getElem hi, Option.some.inj ht⟩
theorem ints_of (f : Int → Int) : ∀ (ys : List Value) (ns : List Int), ys.length = ns.length → (∀ (i : Nat) (y : Value), ys[i]? = some y → ∃ x u, ns[i]? = some x ∧ y = Value.int (f x) u) → IntsAre ys (ns.map f)
  | [], [], _, _ => .nil
  | [], _ :: _, h, _ => by simp at h
  | _ :: _, [], h, _ => by simp at h
  | y :: ys, n :: ns, h, hF => by
    obtain ⟨x, u, e, rfl⟩ := hF 0 y rfl
    simp at e; subst e
    exact .cons _ u (ints_of f ys ns (by simpa using h) fun i y hy => by simpa using hF (i + 1) y (by simpa using hy))
theorem fmod_range (x : Int) : 0 ≤ x.fmod 17793024 ∧ x.fmod 17793024 < 17793024 := by
  rw [Int.fmod_eq_emod_of_nonneg _ (by decide)]
  omega
theorem neNil {prog : Program} {w : World} {A : Around} {E : Value → Shared → Prop} {s : Shared} {D D2 : Addr} {ys : List Value} {Q : Value → Shared → Prop} (hl : s.heap.IsList D ys.toArray) (hb : s.heap.IsList D2 #[]) (hu : A.units < cLine)
    (h : Q (.bool (!decide (ys.length = 0))) s) : wpAny (model prog w) A (compareOp .NotEq (.ref D) (.ref D2)) Q E s := by
  by_cases h0 : ys.length = 0
  · have : ys = [] := List.length_eq_zero_iff.mp h0
    subst this
    exact SeqAt.RcNeAt.lists (e := fun _ => true) hl hb rfl hu (fun j h1 _ => by simp at h1) prog w E Q (by simpa using h)
  · rw [decide_eq_false h0] at h
    exact SeqAt.RcNeAt.lists_lengths hl hb (by simpa using h0) hu prog w E Q h

section
variable {w : World} {A : Around} {E : Value → Shared → Prop} {s : Shared} {env : Env}
theorem eltMod {p1 p2 p3 : Pos} {m : Str → Option Value} {n : Int} {u : Tok} (hk : env.scope.kind = .function) (h1 : env.kindOf (Str.ofString "x") = some .local)
    (hn : s.heap.Ns env.locals m) (hm : m (Str.ofString "x") = some (.int n u))
    {Q : Value → Shared → Prop} (hQ : ∀ u' k, Q (.int (n.fmod 17793024) u') { s with toks := k }) :
    wpAny (model PR w) A (eval (.BinOp (.Name (Str.ofString "x") p1) .Mod (.Constant (.int 17793024) 0 p2) p3) env) Q E s := by
  refine wpAny_BinOp (nameL hk h1 (by decide) hn hm ?_)
  refine wpAny_Constant_int ?_
  exact mod_int (by decide) (hQ _ _)
theorem eltPic0 {mg mb : Str → Option Value} {p1 p2 p3 p4 p5 p6 : Pos} {m : Str → Option Value} {v : Value} {t : Tr} {X₀ : List Addr} (hk : env.scope.kind = .function) (h1 : env.kindOf (Str.ofString "child") = some .local)
    (h3 : env.kindOf (Str.ofString "_law_picture") = some .globalImplicit) (hg : env.globals = mainGlobals)
    (hn : s.heap.Ns env.locals m) (hm : m (Str.ofString "child") = some v)
    (X : (hd.heap_39 w.params).In s.heap) (T : TopRead hd.view_39 LO mg mb s.heap) (hat : At s.heap X₀ v t) (hB : B t ≤ 100000) (hh : A.handled = none) (hdp : A.depth + dpt t < recursionLimit) (hu : A.units + 3 * dpt t + 10 < cLine) (hd2 : dpt t ≤ 2)
    {Q : Value → Shared → Prop} (hQ : ∀ u' h' k, (∀ b o, s.heap.get? b = some o → h'.get? b = some o) → Q (.str (picS t 0).1 u') { s with heap := h', toks := k }) :
    wpAny (model PR w) A (eval (.Subscript (.Call (.Name (Str.ofString "_law_picture") p1) [.Name (Str.ofString "child") p2, .Constant (.int 0) 0 p3] [] p4) (.Constant (.int 0) 0 p5) p6) env) Q E s := by
  have hns' : s.heap.Ns env.globals mg := by rw [hg]; exact T.g
  refine Subscript_ ?_
  refine Call_ (Calls.Name_function_global hk h3 (Calls.loadGlobal_global hns' (mg_of X T.g rfl) ?_) (by decide))
  refine callWith_K X rfl (Calls.spliced_cons ?_)
  refine nameL hk h1 (by decide) hn hm (Calls.spliced_cons ?_)
  show wpAny _ _ (eval (.Constant (.int 0) 0 p3) env) _ _ _
  refine wpAny_Constant_int ?_
  refine Calls.spliced_nil ⟨X, ?_⟩
  refine pic_spec t (s := { s with toks := s.toks + 1 }) (d := 0) X T hat hB hh hdp hu (by omega) ?_
  intro a h' tk r tk' n hr hb hob hkk
  subst hr
  refine wpAny_Constant_int ?_
  exact item_tupleT (j := 0) ⟨_, hob, rfl, n, rfl⟩ (by decide) (by decide) rfl rfl (hQ _ _ _ hkk)
theorem q_row {k : Nat} (hk : k ≤ 3) : Str.ofString "'" ++ Txt.mul (Str.ofString "\"'") (((3 ^ k : Nat) : Int) - 1) = rowS k := by
  have : ∀ k < 4, Str.ofString "'" ++ Txt.mul (Str.ofString "\"'") (((3 ^ k : Nat) : Int) - 1) = rowS k := by decide +kernel
  exact this k (by omega)
theorem q_ok {k : Nat} (hk : k ≤ 3) : MulOk (Str.ofString "\"'") (((3 ^ k : Nat) : Int) - 1) := by
  have e2 : (Str.ofString "\"'").length = 2 := by decide +kernel
  have hk' : k = 0 ∨ k = 1 ∨ k = 2 ∨ k = 3 := by omega
  unfold MulOk
  rw [e2]
  rcases hk' with rfl | rfl | rfl | rfl <;> exact ⟨by decide, by decide, by decide⟩
theorem q_len {k : Nat} (hk : k ≤ 3) : (Str.ofString "'" ++ Txt.mul (Str.ofString "\"'") (((3 ^ k : Nat) : Int) - 1)).length ≤ 53 := by
  rw [q_row hk, row_len]
  have hk' : k = 0 ∨ k = 1 ∨ k = 2 ∨ k = 3 := by omega
  rcases hk' with rfl | rfl | rfl | rfl <;> decide
theorem eltRow {p1 p2 p3 p4 p5 p6 p7 p8 p9 : Pos} {m : Str → Option Value} {k : Nat} {u : Tok} (hk3 : k ≤ 3) (hk : env.scope.kind = .function) (h1 : env.kindOf (Str.ofString "depth") = some .local)
    (hn : s.heap.Ns env.locals m) (hm : m (Str.ofString "depth") = some (.int k u))
    {Q : Value → Shared → Prop} (hQ : ∀ u' tk, Q (.str (rowS k) u') { s with toks := tk }) :
    wpAny (model PR w) A (eval (.BinOp (.Constant (.str (Str.ofString "'")) 0 p1) .Add (.BinOp (.Constant (.str (Str.ofString "\"'")) 0 p2) .Mult (.BinOp (.BinOp (.Constant (.int 3) 0 p3) .Pow (.Name (Str.ofString "depth") p4) p5) .Sub (.Constant (.int 1) 0 p6) p7) p8) p9) env) Q E s := by
  refine wpAny_BinOp (wpAny_Constant_str ?_)
  refine wpAny_BinOp (wpAny_Constant_str ?_)
  refine wpAny_BinOp ?_
  refine wpAny_BinOp (wpAny_Constant_int ?_)
  refine nameL hk h1 (by decide) hn hm ?_
  refine powS hk3 fun t' k' => ?_
  refine wpAny_Constant_int ?_
  refine sub_int ?_
  refine SB.mul (q_ok hk3) fun t2 k2 => ?_
  refine add_str ?_ ?hsz
  case hsz =>
    have := q_len hk3
    rw [Str.length_append] at this
    rw [sizeLine_eq]; omega
  rw [q_row hk3]
  exact fun _ _ => hQ _ _
theorem rows_four {ys vs : List Value} (hlen : vs.length = 4) (hP : ∀ (j : Nat) (v : Value), vs[j]? = some v → ∃ t, v = Value.int (0 + (j : Int) * 1) t)
    (hF : Paired (fun v y => ∃ (k : Nat) (u u' : Tok), v = Value.int k u ∧ y = Value.str (rowS k) u') (vs.filter fun _ => true) ys) :
    ∃ u0 u1 u2 u3, ys = [.str (rowS 0) u0, .str (rowS 1) u1, .str (rowS 2) u2, .str (rowS 3) u3] := by
  match vs, hlen with
  | [v0, v1, v2, v3], _ =>
    obtain ⟨t0, rfl⟩ := hP 0 v0 rfl
    obtain ⟨t1, rfl⟩ := hP 1 v1 rfl
    obtain ⟨t2, rfl⟩ := hP 2 v2 rfl
    obtain ⟨t3, rfl⟩ := hP 3 v3 rfl
    simp only [List.filter_cons, if_true, List.filter_nil] at hF
    cases hF with
    | cons h0 hF =>
    cases hF with
    | cons h1 hF =>
    cases hF with
    | cons h2 hF =>
    cases hF with
    | cons h3 hF =>
    cases hF with
    | nil =>
    obtain ⟨k0, _, u0, e0, rfl⟩ := h0
    obtain ⟨k1, _, u1, e1, rfl⟩ := h1
    obtain ⟨k2, _, u2, e2, rfl⟩ := h2
    obtain ⟨k3, _, u3, e3, rfl⟩ := h3
    injection e0 with e0
    injection e1 with e1
    injection e2 with e2
    injection e3 with e3
    have f0 : k0 = 0 := by simp at e0; omega
    have f1 : k1 = 1 := by simp at e1; omega
    have f2 : k2 = 2 := by simp at e2; omega
    have f3 : k3 = 3 := by simp at e3; omega
    subst f0 f1 f2 f3
    exact ⟨u0, u1, u2, u3, rfl⟩
theorem walks_lt {prog : Program} {I : Addr} {fp wr : List Addr} {n : Nat} {P : Nat → Value → Prop} {St : Nat → Heap → Prop} (W : Walks prog w A I fp wr n P St) : Walks prog w A I fp wr n (fun i v => i < n ∧ P i v) St :=
  { sub := W.sub, frame := W.frame, done := W.done, self := W.self, item := fun i s Q E hi st hQ => W.item i s Q E hi st fun v h' tk hP => hQ v h' tk ⟨hi, hP⟩ }
/-- the four rows, stored -/
theorem rowsAssign {p1 p2 p3 p4 p5 p6 p7 p8 p9 px py pos spos : Pos} {iter : Expr} {scope : Scope} {cl : List (Str × Addr)} {m : Str → Option Value} {Q : Flow → Shared → Prop}
    (hsw : swapsWith (.ListComp (.BinOp (.Constant (.str (Str.ofString "'")) 0 p1) .Add (.BinOp (.Constant (.str (Str.ofString "\"'")) 0 p2) .Mult (.BinOp (.BinOp (.Constant (.int 3) 0 p3) .Pow (.Name (Str.ofString "depth") p4) p5) .Sub (.Constant (.int 1) 0 p6) p7) p8) p9) [⟨.Name (Str.ofString "depth") px, iter, [], 0⟩] scope pos) (some (.Name (Str.ofString "rows") py)) spos.line env = pure true)
    (hclos : closureFor scope env = pure cl) (hcell : ∀ y ∈ scope.names, y.2 ≠ .cell) (hkind : scope.kind = .function)
    (hnames : ∀ y ∈ scope.names, y.2 = .local → scope.names.lookup y.1 = some .local) (hx : scope.names.lookup (Str.ofString "depth") = some .local)
    (hkd : ∀ C, (compEnvC scope cl C env).scope.kind = .function ∧ (compEnvC scope cl C env).kindOf (Str.ofString "depth") = some .local)
    (hy : env.kindOf (Str.ofString "rows") = some .local) (hp : (env.scope.kind == .class || (env.scope.kind == .module && env.locals != env.globals)) = false)
    (hit : ∀ Q' : Value → Shared → Prop, (∀ r h' tk t u v, IsRange h' r 0 4 1 t u v → (∀ b o, s.heap.get? b = some o → h'.get? b = some o) → Q' (.ref r) { s with heap := h', toks := tk }) → wpAny (model PR w) A (eval iter env) Q' E s)
    (hh : A.handled = none) (hns : s.heap.Ns env.locals m)
    (hQ : ∀ D h' tk u0 u1 u2 u3, s.heap.get? D = none → h'.PlainList D [Value.str (rowS 0) u0, .str (rowS 1) u1, .str (rowS 2) u2, .str (rowS 3) u3].toArray → h'.Ns env.locals (fun z => if z = Str.ofString "rows" then some (.ref D) else m z) →
      (∀ b o, b ≠ env.locals → s.heap.get? b = some o → h'.get? b = some o) → Q .next { s with heap := h', toks := tk })
    (hs : ∀ x, foldedSetIterable iter env x = pure x := by intro _; rfl) :
    wpAny (model PR w) A (exec (.Assign [.Name (Str.ofString "rows") py] (.ListComp (.BinOp (.Constant (.str (Str.ofString "'")) 0 p1) .Add (.BinOp (.Constant (.str (Str.ofString "\"'")) 0 p2) .Mult (.BinOp (.BinOp (.Constant (.int 3) 0 p3) .Pow (.Name (Str.ofString "depth") p4) p5) .Sub (.Constant (.int 1) 0 p6) p7) p8) p9) [⟨.Name (Str.ofString "depth") px, iter, [], 0⟩] scope pos) spos) env) Q E s := by
  refine wpAny_Assign_ListComp_free (fun _ => true) (fun v y => ∃ (k : Nat) (u u' : Tok), v = .int k u ∧ y = .str (rowS k) u') hsw hclos hcell hkind hnames hx hy hp (hit _ fun r h' tk t u v hr hk => wpAny_pyIter_range hr (by decide) ?_) hs
  have keep : ∀ b o o', s.heap.get? b = some o' → (h'.push o).get? b = some o' := fun b o o' e => Heap.get?_push_of_some _ (hk b o' e)
  have lt : ∀ b o, s.heap.get? b = some o → b ≠ h'.objs.size := fun b o e => Nat.ne_of_lt (Heap.lt_size (hk b o e))
  refine ⟨h'.objs.size, [h'.objs.size], [h'.objs.size], 4, _, _, m, rfl, walks_lt (Walks.range hh h'.objs.size 0 1 4), by decide, ?_, ?_, ?_, ?_, ⟨?_, ?_⟩, ?_⟩
  · exact Heap.get?_push_size _ rfl
  · intro b hb
    rw [List.mem_singleton.mp hb]
    show h'.objs.size < (h'.push _).objs.size
    rw [Heap.size_push]; exact Nat.lt_succ_self _
  · intro hm
    obtain ⟨o, _, _, ho, _⟩ := hns
    exact lt _ _ ho (List.mem_singleton.mp hm)
  · exact hns.keeps fun b o e => keep b _ o e
  · intro C i v s₃ m₃ E' hc hP hn hm hkk _
    exact wpAny_pure ⟨rfl, _, _, rfl, fun _ _ e => e⟩
  · rintro C i v s₃ m₃ E' hc ⟨hi, t', rfl⟩ _ hn hm hkk _
    have e : (0 + (i : Int) * 1) = (i : Int) := by omega
    rw [e] at hm ⊢
    exact eltRow (by omega) (hkd C).1 (hkd C).2 hn hm fun u' tk => ⟨⟨i, t', u', rfl, rfl⟩, _, _, rfl, fun _ _ e => e⟩
  · intro D h₂ tk₂ ys vs hD _ hpl hlen hP hF hn hkk
    obtain ⟨u0, u1, u2, u3, e⟩ := rows_four hlen (fun j v hv => (hP j v hv).2) hF
    have hD' : s.heap.get? D = none := by
      cases e : s.heap.get? D with
      | none => rfl
      | some o' => have := keep D { cls := .type "range_iterator", data := .fields #[rawInt 0, rawInt (Builtin.Range.rangeSize 0 4 1), rawInt 1] } o' e; exact absurd (this.symm.trans hD) (by simp)
    refine hQ D h₂ tk₂ u0 u1 u2 u3 hD' ?_ hn fun b o hb e => hkk b o hb (fun q => lt b o e (List.mem_singleton.mp q)) (keep b _ o e)
    rw [← e]; simpa using hpl
end
end Mine
namespace Mine
/-- all that a frame's heap holds beyond its base -/
theorem newsAll {h₀ h : Heap} {L : Addr} {m : Str → Option Value} (_ : Fr h₀ L h m) : ∃ nl : List (Addr × Obj), News h₀ L h nl ∧ ∀ b o, h.get? b = some o → b ≠ L → h₀.get? b = none → (b, o) ∈ nl := by
  refine ⟨(List.range h.objs.size).filterMap fun a => if a = L ∨ (h₀.get? a).isSome = true then none else (h.get? a).map fun o => (a, o), ?_, ?_⟩
  · intro p hp
    obtain ⟨a, _, e⟩ := List.mem_filterMap.mp hp
    split at e
    · cases e
    · rename_i hn
      cases ho : h.get? a with
      | none => rw [ho] at e; cases e
      | some o =>
        rw [ho] at e
        simp only [Option.map_some, Option.some.injEq] at e
        subst e
        refine ⟨ho, fun q => hn (.inl q), ?_⟩
        cases e2 : h₀.get? a with
        | none => rfl
        | some o' => exact absurd (.inr (by rw [e2]; rfl)) hn
  · intro b o ho hb h0
    refine List.mem_filterMap.mpr ⟨b, List.mem_range.mpr (Heap.lt_size ho), ?_⟩
    rw [if_neg (by rintro (q | q); exact hb q; rw [h0] at q; cases q), ho]
    rfl
theorem At.news {h₀ h h' : Heap} {L : Addr} {m m' : Str → Option Value} {nl news : List (Addr × Obj)} {X : List Addr} {v : Value} {t : Tr} (F : Fr h₀ L h m) (hall : ∀ b o, h.get? b = some o → b ≠ L → h₀.get? b = none → (b, o) ∈ nl)
    (F' : Fr h₀ L h' m') (N' : News h₀ L h' news) (hs : ∀ p ∈ nl, p ∈ news) (a : At h X v t) : At h' X v t := by
  refine At.mono (fun b vs n hb e => ⟨hb, ?_⟩) a
  cases e0 : h₀.get? b with
  | some o =>
    have := F.keep b o e0
    rw [this] at e
    rw [F'.keep b o e0, e]
  | none =>
    refine (N' _ (hs _ (hall b _ e ?_ e0))).1
    rintro rfl
    obtain ⟨oL, es, ep, hoL, hdL, _⟩ := F.ns
    rw [e] at hoL; cases hoL; cases hdL
end Mine
end

section
open PySem PySem.W PyProof.Rows PySem.Calls
namespace Mine
theorem mk0 : Str.ofString "0" = mark 0 := by decide +kernel
theorem mk1 : Str.ofString "1" = mark 1 := by decide +kernel
theorem mk2 : Str.ofString "2" = mark 2 := by decide +kernel
theorem mk3 : Str.ofString "3" = mark 3 := by decide +kernel
theorem mark_len (k : Nat) : (mark k).length = 1 := rfl
theorem replace_first {w : World} {mg mb : Str → Option Value} {A : Around} {s : Shared} {ts : List Tr} {tx t0 u0 t1 u1 t2 u2 t3 u3 : Tok} {Q E : Value → Shared → Prop} (hok : okTs ts = true) (hdp2 : dpts ts ≤ 2) (hsz : szs ts + 1 ≤ 33)
   (X : (hd.heap_39 w.params).In s.heap) (T : TopRead hd.view_39 LO mg mb s.heap) (hh : A.handled = none) (hdp : A.depth + 3 < recursionLimit) (hu : A.units + 20 < cLine)
   (hQ : ∀ h' tk tk', (∀ b o, s.heap.get? b = some o → h'.get? b = some o) → Q (.str (lineS ts) tk') { s with heap := h', toks := tk }) :
   wpAny (model Challenge.rw_mj0033_01.row.prog w) A (call (.ref 38) [.str (pictS ts) tx, .str (Str.ofString "0") t0, .str (rowS 0) u0, .str (Str.ofString "1") t1, .str (rowS 1) u1, .str (Str.ofString "2") t2, .str (rowS 2) u2, .str (Str.ofString "3") t3, .str (rowS 3) u3]) Q E s := by
  have a0 := pict_small hsz
  have a1 := repl_grow (x := pictS ts) (mark_len 0) (by rw [row_len0]; omega : 1 ≤ (rowS 0).length)
  have a2 := repl_grow (x := replS (pictS ts) (mark 0) (rowS 0)) (mark_len 1) (by rw [row_len1]; omega : 1 ≤ (rowS 1).length)
  have a3 := repl_grow (x := replS (replS (pictS ts) (mark 0) (rowS 0)) (mark 1) (rowS 1)) (mark_len 2) (by rw [row_len2]; omega : 1 ≤ (rowS 2).length)
  rw [row_len0] at a1
  rw [row_len1] at a2
  rw [row_len2] at a3
  have b1 : (replS (pictS ts) (mark 0) (rowS 0)).length ≤ 96 := by omega
  have b2 : (replS (replS (pictS ts) (mark 0) (rowS 0)) (mark 1) (rowS 1)).length ≤ 480 := by omega
  have b3 : (replS (replS (replS (pictS ts) (mark 0) (rowS 0)) (mark 1) (rowS 1)) (mark 2) (rowS 2)).length ≤ 8160 := by omega
  rw [mk0, mk1, mk2, mk3]
  refine replace_spec (pictS ts) (mark 0) (rowS 0) (mark 1) (rowS 1) (mark 2) (rowS 2) (mark 3) (rowS 3) tx t0 u0 t1 u1 t2 u2 t3 u3 X T hh hdp hu rfl rfl rfl rfl (by rw [sizeLine_eq]; omega) (by rw [sizeLine_eq]; omega) (by rw [sizeLine_eq]; omega) (by rw [sizeLine_eq]; omega)
    (repl_ok (a := 96) (b := 1) (by decide) a0 (by rw [row_len0]; omega) (by decide)) (repl_ok (a := 96) (b := 5) (by decide) b1 (by rw [row_len1]; omega) (by decide)) (repl_ok (a := 480) (b := 17) (by decide) b2 (by rw [row_len2]; omega) (by decide)) (repl_ok (a := 8160) (b := 53) (by decide) b3 (by rw [row_len3]; omega) (by decide)) ?_
  intro r h' tk tk' hr hk
  rw [first_law hok hdp2] at hr
  subst hr
  exact hQ h' tk tk' hk
theorem row_pos (k : Nat) : 1 ≤ (rowS k).length := by rw [row_len]; omega
theorem row_pos' (k : Nat) : ((rowS k).length == 0) = false := by
  have := row_pos k
  simp; omega
theorem replace_second {w : World} {mg mb : Str → Option Value} {A : Around} {s : Shared} {ts : List Tr} {tx t0 u0 t1 u1 t2 u2 t3 u3 : Tok} {Q E : Value → Shared → Prop} (hdp2 : dpts ts ≤ 2) (hsz : szs ts + 1 ≤ 33)
   (X : (hd.heap_39 w.params).In s.heap) (T : TopRead hd.view_39 LO mg mb s.heap) (hh : A.handled = none) (hdp : A.depth + 3 < recursionLimit) (hu : A.units + 20 < cLine)
   (hQ : ∀ h' tk tk', (∀ b o, s.heap.get? b = some o → h'.get? b = some o) → Q (.str (replS (replS (replS (replS (lineS ts) (rowS 3) (mark 3)) (rowS 2) (mark 2)) (rowS 1) (mark 1)) (rowS 0) (mark 0)) tk') { s with heap := h', toks := tk }) :
   wpAny (model Challenge.rw_mj0033_01.row.prog w) A (call (.ref 38) [.str (lineS ts) tx, .str (rowS 3) t3, .str (Str.ofString "3") u3, .str (rowS 2) t2, .str (Str.ofString "2") u2, .str (rowS 1) t1, .str (Str.ofString "1") u1, .str (rowS 0) t0, .str (Str.ofString "0") u0]) Q E s := by
  have a0 := line_small hdp2 hsz
  have a1 := repl_shrink (x := lineS ts) (p := rowS 3) (n := mark 3) (row_pos 3)
  have a2 := repl_shrink (x := replS (lineS ts) (rowS 3) (mark 3)) (p := rowS 2) (n := mark 2) (row_pos 2)
  have a3 := repl_shrink (x := replS (replS (lineS ts) (rowS 3) (mark 3)) (rowS 2) (mark 2)) (p := rowS 1) (n := mark 1) (row_pos 1)
  have b1 := Nat.le_trans a1 a0
  have b2 := Nat.le_trans a2 b1
  have b3 := Nat.le_trans a3 b2
  rw [mk0, mk1, mk2, mk3]
  refine replace_spec (lineS ts) (rowS 3) (mark 3) (rowS 2) (mark 2) (rowS 1) (mark 1) (rowS 0) (mark 0) tx t3 u3 t2 u2 t1 u1 t0 u0 X T hh hdp hu (row_pos' 3) (row_pos' 2) (row_pos' 1) (row_pos' 0) (by rw [sizeLine_eq]; omega) (by rw [sizeLine_eq]; omega) (by rw [sizeLine_eq]; omega) (by rw [sizeLine_eq]; omega)
    (repl_ok (a := 17920) (b := 1) (row_pos 3) a0 (Nat.le_refl 1) (by decide)) (repl_ok (a := 17920) (b := 1) (row_pos 2) b1 (Nat.le_refl 1) (by decide)) (repl_ok (a := 17920) (b := 1) (row_pos 1) b2 (Nat.le_refl 1) (by decide)) (repl_ok (a := 17920) (b := 1) (row_pos 0) b3 (Nat.le_refl 1) (by decide)) ?_
  intro r h' tk tk' hr hk
  subst hr
  exact hQ h' tk tk' hk
end Mine
end

section
open PySem PySem.W PyProof.Rows PySem.Calls
namespace Mine
local macro_rules | `(tactic| walk_at "compareOp NotEq ref ref") => `(tactic| (refine neNil (Heap.IsList.at (by assumption) fun o e => Fr.keep (by assumption) _ o e) (News.isList (by assumption) (by k_mem)) ?hz ?_; (case hz => assumption)))
local macro_rules | `(tactic| walk_at "call builtin:str.join") => `(tactic| (refine joinList (News.isList (by assumption) (by k_mem)) (by assumption) (by assumption) ?_; intro tJ kJ))
local macro_rules | `(tactic| walk_at "subscriptTail") => `(tactic| ((with_reducible show wpAny _ _ (subscriptTail _ _ (Value.ref _) (Value.int _ _)) _ _ _); (refine item_litK (News.isList (by assumption) (List.Mem.head _)) ?k2 ?k3 ?k4 ?_; (case k2 => decide); (case k3 => decide); (case k4 => rfl))))
noncomputable def DrawnPost (s : Shared) (L l : Addr) (fl : Flow) (s' : Shared) : Prop := ∃ h' tk D vs' ns', fl = .next ∧ s' = { s with heap := h', toks := tk } ∧ Fr s.heap L h' (fun y => if y = Str.ofString "drawn" then some (.ref D) else List.lookup y [(Str.ofString "script", Value.ref l)].reverse) ∧
     h'.IsList D (vs' : List Value).toArray ∧ IntsAre vs' ns' ∧ ns'.length ≤ 8
theorem DrawnPost.intro {s : Shared} {L l D : Addr} {h' : Heap} {tk : Nat} {vs' : List Value} {ns' : List Int} {news : List (Addr × Obj)} {n : Nat} (F : Fr s.heap L h' (fun y => if y = Str.ofString "drawn" then some (.ref D) else List.lookup y [(Str.ofString "script", Value.ref l)].reverse))
    (N : News s.heap L h' news) (hm : (D, W.listOf vs'.toArray n) ∈ news) (hi : IntsAre vs' ns') (hn : ns'.length ≤ 8) : DrawnPost s L l .next { s with heap := h', toks := tk } :=
  ⟨h', tk, D, vs', ns', rfl, rfl, F, N.isList hm, hi, hn⟩
set_option maxRecDepth 100000 in
set_option maxHeartbeats 4000000 in
theorem law_tells : LawTells := by
  intro w mg mb bm ob ps A s l vs ns Q E g hh hdp hu G hl hI hn hQ
  have X := g.K
  have T := g.T
  revert X; k_fill; intro X
  refine wpAny_call ?_
  refine' enterK (binds := [(Str.ofString "script", .ref l)]) X T.nolimit ?k6 ?k7 (by omega) ?k9 ?kB ?_ ?c2 ?c3 ?c4 ?c5
  (case k6 => k_is)
  (case k7 => k_is)
  (case k9 => exact BindsTo.of_eq rfl)
  (case kB => exact locs rfl)
  (case c2 => exact rfl)
  (case c3 => exact rfl)
  (case c4 => exact rfl)
  (case c5 => decide)
  intro L h₁ F N X
  (try k_fold)
  refine wpAny_execs_cons (wpAny_mono (Q := DrawnPost s L l) ?_ ?_ (fun _ _ e => e))
  · have hu3 : A.units + 3 < cLine := by omega
    repeat' (first | (k_unfold; (try dsimp only)) | walk1 | (dsimp only; walk1) | fail "no step")
    · exact DrawnPost.intro (by assumption) (by assumption) (List.Mem.head _) (.cons _ _ (.cons _ _ (.cons _ _ (.cons _ _ (.cons _ _ (.cons _ _ (.cons _ _ (.cons _ _ .nil)))))))) (by decide)
    · exact DrawnPost.intro (by assumption) (by assumption) (List.Mem.head _) (by assumption) (by omega)
  clear F N
  rintro fl s' ⟨h', tk, D, vs', ns', rfl, rfl, F, hD, hI', hn'⟩
  dsimp only
  (try k_fold)
  have N : News s.heap L h' [] := News.nil
  repeat' (first
    | ((fail_if_success (with_reducible show wpAny _ _ (eval (Expr.ListComp _ _ _ _) _) _ _ _)); (first | (k_unfold; (try dsimp only)) | walk1 | (dsimp only; walk1)))
    | fail "no step")
  have hlen' : vs'.length = ns'.length := hI'.length
  refine compEval (l := D) (vs := vs') (cl := []) (fun _ i y => ∃ x u, ns'[i]? = some x ∧ y = .int (x.fmod 17793024) u) (fun _ _ _ _ _ h => h) rfl (by decide) rfl (by decide) rfl (fun Q' hq => nameL rfl rfl (by decide) F.ns rfl hq) hh hD (by omega) ?_ ?_
  · intro C i v s₃ m₃ E' hC hv hn₃ hm hk
    obtain ⟨x, u, hx, rfl⟩ := ints_get hI' i v hv
    exact eltMod rfl rfl hn₃ hm fun u' k => ⟨⟨x, u', hx, rfl⟩, _, _, rfl, fun _ _ e => e⟩
  intro D2 h2 tk2 ys hD2 hpl hylen hF hk
  have F2 := Fr.more F hk
  have hk0 : ∀ b o, s.heap.get? b = some o → h2.get? b = some o := F2.keep
  have hys := ints_of (fun x => x.fmod 17793024) ys ns' (hylen.trans hlen') hF
  refine Calls.spliced_nil ⟨X.keeps hk0, ?_⟩
  refine tree_spec (l := D2) (vs := ys) (X.keeps hk0) (T.keeps hk0) hh (by show A.depth + 1 + 3 < recursionLimit; omega) (by show A.units + 3 + 20 < cLine; omega) hpl.isList hys (by rw [List.length_map]; exact hn') (by intro x hx; obtain ⟨y, _, rfl⟩ := List.mem_map.mp hx; exact fmod_range y) ?_
  intro h3 tk3 a ts hat hok hdp2 hsz hk3
  have F3 := Fr.more F2 hk3
  clear F F2 hD2 hpl hylen hF hk hys N hI' hD hlen'
  obtain ⟨nl, N, hall⟩ := newsAll F3
  have move : ∀ h' m', Fr s.heap L h' m' → News s.heap L h' nl → At h' [] (.ref a) (.node ts) := fun h' m' F' N' => At.news F3 hall F' N' (fun p hp => hp) hat
  clear hat hall hk3 hk0 hn'
  repeat' (first
    | ((fail_if_success (with_reducible show wpAny _ _ (eval (Expr.ListComp _ _ _ _) _) _ _ _)); (first | (k_unfold; (try dsimp only)) | walk1 | (dsimp only; walk1)))
    | fail "no step")
  rename News _ _ _ _ => N4
  rename_i h4 F4
  have hat4 := move _ _ F4 N4
  clear move N4
  cases hat4 with
  | @node a n vsT ts haT hoT hallT =>
  have hlT : h4.IsList a vsT.toArray := ⟨_, hoT, rfl, n, rfl⟩
  have hBs := Bs_small hdp2 hsz
  have hlen := Bs_len ts
  refine listComp45 (l := a) (vs := vsT) (ps := ps) (F := fun i y => ∃ t u, ts[i]? = some t ∧ y = .str (wordS t) u) (by decide) (by decide) rfl (by decide) rfl (fun Q' hq => ld F4 rfl hq) hh hlT (g.tb.keeps F4.keep) G
    (by rw [hallT.length]; omega) ?_ ?_
  · intro C i v s₂ m₂ more E' hv hns hm hx hb hos tab
    obtain ⟨t, ht, hmem, hat⟩ := hallT.get i v hv
    have hx' : Heap.ExtBut 45 s.heap s₂.heap := fun b o hb e => hx b o hb (F4.keep b o e)
    have g₂ : Gd w mg mb bm ob s₂.heap (ps ++ more) := g.ext hx' tab
    refine Call_ (Calls.Name_function_global rfl rfl (Calls.loadGlobal_global g₂.T.g (mg_of g₂.K g₂.T.g rfl) ?_) (by decide))
    refine callWith_K g₂.K rfl (Calls.spliced_cons ?_)
    refine wpAny_Name (wpAny_loadName_local rfl rfl hns hm ?_) (by decide)
    refine Calls.spliced_nil ⟨g₂.K, ?_⟩
    have h1 := Bs_mem hmem
    have h2 := dpts_mem hmem
    refine word_spec t g₂ (hat.ext (g.tb.keeps F4.keep) hx) (by omega) hh (by show A.depth + 1 + dpt t + 7 < recursionLimit; omega) hb fun s' tk' tr => ⟨⟨t, tk', ht, rfl⟩, tr⟩
  intro D4 s4 ys4 hD4 hpl4 hlen4 hF4 tr
  obtain ⟨more, tab⟩ := tr.tab
  have hx' : Heap.ExtBut 45 s.heap s4.heap := fun b o hb e => tr.ext b o hb (F4.keep b o e)
  have g' : Gd w mg mb bm ob s4.heap (ps ++ more) := g.ext hx' tab
  refine Calls.spliced_nil ⟨g'.K, ?_⟩
  have hys4 : StrsAre ys4 (wordsS ts) := by
    rw [hallT.length] at hlen4
    exact strsAre_of ys4 ts hlen4 hF4
  refine join_spec (l := D4) (vs := ys4) (xs := wordsS ts) g' hh (by show A.depth + 1 + 5 < recursionLimit; omega) tr.bare hpl4.isList hys4 ?_ (joinOk_words ts (by omega)) (by rw [wordsS_eq, List.length_map]; omega) ?_
  · intro x hx
    rw [wordsS_eq] at hx
    obtain ⟨t, ht, rfl⟩ := List.mem_map.mp hx
    have h1 := Bs_mem ht
    have h2 := wordS_len t
    omega
  intro s5 tkL more' hx5 hb5 hos5 tab5
  have hx45 : Heap.ExtBut 45 h4 s5.heap := tr.ext.trans hx5
  have hat5 : AtAll s5.heap [] vsT ts := hallT.ext (g.tb.keeps F4.keep) hx45
  have ho5 : s5.heap.get? a = some (listObj vsT n) := hx45 a _ (fun q => by rw [q, (g.tb.keeps F4.keep).tab.2] at hoT; cases hoT) hoT
  have BB : Based s.heap s.heap 49 45 ps := Based.start g.tb.code g.tb.tab (by decide)
  rw [Array.append_assoc] at tab5
  obtain ⟨BB5, F5⟩ := BB.grow F4 hx45 tab5.code tab5.tab
  have hos : s5.os = s.os := hos5.trans tr.os
  have X5 := in45 X BB5.same.extBut
  have T5 := top45 T BB5.same.extBut
  have hend : ∀ (s' : Shared) (m' : Str → Option Value), Fr (regrown s.heap 45 (ps ++ (more ++ more'))) L s'.heap m' → AllBare s'.gens → s'.os = s.os → Q (Value.bool true) s' := fun s' m' F' hb hos => hQ s' ⟨fun b o hb e => F'.keep b o (BB5.same.extBut b o hb e), hb, hos, more ++ more', BB5.codeAt F', BB5.tabAt F'⟩
  clear BB BB5 hQ hx' g' hx5 hx45 tab5 tab tr hos5 hys4 hF4 hlen4 hpl4 hD4 hlT hallT hoT F4 X g G hl hI hn
  revert X5 T5 hend F5
  generalize regrown s.heap 45 (ps ++ (more ++ more')) = h0
  intro F5 X5 T5 hend
  clear T
  obtain ⟨h5, g5, d5, tk5, os5⟩ := s5
  dsimp only at hb5 hos hat5 ho5 F5
  have hline : Txt.join (Str.ofString " ") (List.map quoteS (wordsS ts)) = lineS ts := rfl
  rw [hline]
  clear hline
  obtain ⟨nl, N, hall⟩ := newsAll F5
  have move : ∀ h' m', Fr h0 L h' m' → News h0 L h' nl → At h' [] (.ref a) (.node ts) := fun h' m' F' N' => At.news F5 hall F' N' (fun p hp => hp) (.node haT ho5 hat5)
  clear hat5 ho5 hall
  repeat' (first
    | ((fail_if_success (with_reducible show wpAny _ _ (eval (Expr.ListComp _ _ _ _) _) _ _ _)); (first | (k_unfold; (try dsimp only)) | walk1 | (dsimp only; walk1)))
    | fail "no step")
  rename News _ _ _ _ => N6
  rename_i h6 F6
  have hat6 := move _ _ F6 N6
  clear move N6
  cases hat6 with
  | @node a n vsT ts haT hoT hallT =>
  have hlT : h6.IsList a vsT.toArray := ⟨_, hoT, rfl, n, rfl⟩
  refine compEval (l := a) (vs := vsT) (cl := []) (fun _ i y => ∃ t u, ts[i]? = some t ∧ y = .str (picS t 0).1 u) (fun _ _ _ _ _ h => h) rfl (by decide) rfl (by decide) rfl (fun Q' hq => nameL rfl rfl (by decide) F6.ns rfl hq) hh hlT (by rw [hallT.length]; omega) ?_ ?_
  · intro C i v s₃ m₃ E' hC hv hn hm hk'
    obtain ⟨t, ht, hmem, hat⟩ := hallT.get i v hv
    have h1 := Bs_mem hmem
    have h2 := dpts_mem hmem
    have hk6 : ∀ b o, h0.get? b = some o → s₃.heap.get? b = some o := fun b o e => hk' b o (F6.keep b o e)
    refine eltPic0 rfl rfl rfl rfl hn hm (X5.keeps hk6) (T5.keeps hk6) (hat.keeps hk') (by omega) (by exact hh) (by show A.depth + 1 + dpt t < recursionLimit; omega) (by show A.units + 3 + 3 * dpt t + 10 < cLine; omega) (by omega) fun u' h' k hkk => ?_
    exact ⟨⟨t, u', ht, rfl⟩, _, _, rfl, hkk⟩
  intro D7 h7 tk7 zs hD7 hpl7 hzlen hF7 hk7
  have F7 := Fr.more F6 hk7
  obtain ⟨nD7, oD7⟩ := hpl7
  have N7 : News h0 L h7 ((D7, { cls := .type "list", data := .seq zs.toArray nD7 }) :: []) := newsAdd F6 News.nil hD7 oD7
  have hst : StrsAre zs ((picsS ts 0).map (·.1)) := strsAre_pics 0 zs ts (hzlen.trans hallT.length) hF7
  have hJ1 := joinOk_pics ts 0 (by omega)
  clear F6 hF7 hzlen hk7 hD7 oD7 hallT hoT hlT haT
  repeat' (first
    | ((fail_if_success (with_reducible show wpAny _ _ (exec (Stmt.Assign _ (Expr.ListComp _ _ _ _) _) _) _ _ _)); (first | (k_unfold; (try dsimp only)) | walk1 | (dsimp only; walk1)))
    | fail "no step")
  rename_i h8 F8 N8
  have hpict : Txt.join (Str.ofString " ") (List.map (·.1) (picsS ts 0)) = pictS ts := rfl
  rw [hpict] at F8
  clear hpict N8 hst hJ1
  refine rowsAssign (cl := []) rfl rfl (by decide) rfl (by decide) rfl (fun C => ⟨rfl, rfl⟩) rfl rfl ?_ hh F8.ns ?_
  · intro Q' hq
    have N : News h0 L h8 [] := News.nil
    repeat' (first | (k_unfold; (try dsimp only)) | walk1 | (dsimp only; walk1) | fail "no step")
    exact hq _ _ _ _ _ _ (by assumption) (by assumption)
  intro D9 h9 tk9 u0 u1 u2 u3 hD9 hpl9 hns9 hk9
  have F9 : Fr h0 L h9 _ := ⟨hns9, fun b o e => hk9 b o (Nat.ne_of_lt (Nat.lt_of_lt_of_le (Heap.lt_size e) F8.above)) (F8.keep b o e), F8.above⟩
  obtain ⟨nD9, oD9⟩ := hpl9
  have N9 : News h0 L h9 ((D9, { cls := .type "list", data := .seq [Value.str (rowS 0) u0, .str (rowS 1) u1, .str (rowS 2) u2, .str (rowS 3) u3].toArray nD9 }) :: []) := newsAdd F8 News.nil hD9 oD9
  clear F8 hns9 hk9 hD9 oD9
  repeat' (first
    | ((fail_if_success (with_reducible show wpAny _ _ (call (Value.ref 38) _) _ _ _)); (first | (k_unfold; (try dsimp only)) | walk1 | (dsimp only; walk1)))
    | fail "no step")
  refine replace_first hok hdp2 hsz (X5.keeps F9.keep) (T5.keeps F9.keep) hh (by show A.depth + 1 + 3 < recursionLimit; omega) (by show A.units + 3 + 20 < cLine; omega) ?_
  intro h10 tk10 tr10 hk10
  have F10 := Fr.more F9 hk10
  have N10 := News.more N9 hk10
  clear F9 N9 hk10
  repeat' (first
    | ((fail_if_success (with_reducible show wpAny _ _ (call (Value.ref 38) _) _ _ _)); (first | (k_unfold; (try dsimp only)) | walk1 | (dsimp only; walk1)))
    | fail "no step")
  · rename ((lineS ts != lineS ts) = true) => hbad
    simp at hbad
  refine replace_second hdp2 hsz (X5.keeps F10.keep) (T5.keeps F10.keep) hh (by show A.depth + 1 + 3 < recursionLimit; omega) (by show A.units + 3 + 20 < cLine; omega) ?_
  intro h11 tk11 tr11 hk11
  have F11 := Fr.more F10 hk11
  have N11 := News.more N10 hk11
  clear F10 N10 hk11
  repeat' (first
    | ((fail_if_success (with_reducible show wpAny _ _ (call (Value.ref 89) _) _ _ _)); (first | (k_unfold; (try dsimp only)) | walk1 | (dsimp only; walk1)))
    | fail "no step")
  have hps := pict_small hsz
  refine summed_spec (pictS ts) _ (X5.keeps F11.keep) (T5.keeps F11.keep) hh (by show A.depth + 1 + 3 < recursionLimit; omega) (by show A.units + 3 + 20 < cLine; omega) (by omega) ?_
  intro r h12 tk12 tr12 done hpar htext hk12
  have F12 := Fr.more F11 hk12
  have N12 := News.more N11 hk12
  clear F11 N11 hk12
  rw [second_law hok hdp2 hpar htext]
  repeat' (first | (k_unfold; (try dsimp only)) | walk1 | (dsimp only; walk1) | fail "no step")
  have hrr : (r == r) = true := by simp
  rw [hrr]
  exact hend _ _ F12 hb5 hos
end Mine
end

set_option maxRecDepth 100000 in
set_option maxHeartbeats 8000000 in
theorem PySem.Challenge.cw_mj0033_01_holds : PySem.Challenge.rw_mj0033_01.Holds :=
  Mine.top_close Mine.law_tells
