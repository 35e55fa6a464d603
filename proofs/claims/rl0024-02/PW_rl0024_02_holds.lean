import PyProof.Rows.All
import Wide.All
import OpenK.AllK
import Wide.FinOn
import Lean
import PySem.Challenge.RW_rl0024_02
set_option Elab.async false
section PartTop02
open PySem PySem.W PyProof.Rows
namespace Mine
set_option maxRecDepth 100000 in
set_option maxHeartbeats 0 in
open_top hd for PySem.Challenge.rw_rl0024_02
end Mine

end PartTop02
section PartMBase
open PySem PySem.W PySem.Calls PyProof.Rows
namespace Mine
/-- the walk halts here -/
def Stop (P : Prop) : Prop := P
theorem Stop.mk {P : Prop} (h : Stop P) : P := h
abbrev At (dp un : Nat) (gd : Option (List Code)) (fr : List Env) : Around := { handled := none, depth := dp, frames := some fr, guards := gd, units := un }
/-- what a call finds: the frames below, the written part, the top's facts -/
structure Amb (K : Frag) (p : Program) (loose : List Str) (mean : ExcName → Option Value) (mg mb : Str → Option Value) (A : Around) (base : Heap) (fr : List Env) (h : Heap) : Prop where
  below : Below A base fr h
  kin : K.In h
  top : Top p loose mean mg mb h

section
variable {prog : Program} {w : World} {A A₀ : Around} {s : Shared} {base h₀ : Heap} {K : Frag} {L : Addr} {m : Str → Option Value} {env : Env} {news : List (Addr × Obj)} {outer fr : List Env}
  {p : Program} {loose : List Str} {mean : ExcName → Option Value} {mg mb : Str → Option Value}
  {R : Result → Shared → Prop} {name qual : Str} {params : Arguments} {body : List Stmt} {scope : Scope} {dV kV doc pm cdv ct oc : Value} {an od : Option Addr} {osl : Array (Option Value)} {f : Addr} {args : Args} {binds : List (Str × Value)}

theorem frStays {h h' : Heap} (F : Fr h₀ L h m) (st : h.StaysIn h') : Fr h₀ L h' m := by
  obtain ⟨⟨oL, es, ep, hL, r⟩, k, a⟩ := F
  exact ⟨⟨oL, es, ep, st _ _ hL, r⟩, fun b o e => st _ _ (k b o e), a⟩
theorem newsStays {h h' : Heap} (N : News h₀ L h news) (st : h.StaysIn h') : News h₀ L h' news := fun q hq => ⟨st _ _ (N q hq).1, (N q hq).2⟩

theorem ambOf (B : Below A₀ base outer h₀) (F : Fr h₀ L s.heap m) (X₀ : K.In h₀) (T : Top p loose mean mg mb h₀) (hA : A.frames = (A₀.deeper env).frames) (hf : env.frame = some L) (hke : env.scope.kind = .function) :
    Amb K p loose mean mg mb A base (env :: outer) s.heap := by
  have B₁ := pushX B F hf hke
  exact ⟨⟨hA.trans B₁.stack, B₁.stays, B₁.frames⟩, X₀.keeps F.keep, T.keeps F.keep⟩

/-- a plain def's call: its own ground is the heap that it finds -/
theorem callP (M : Amb K p loose mean mg mb A base fr s.heap)
    (ho : K.lookup f = some ⟨oc, od, .func (fnOf name qual params body scope dV kV doc pm an cdv ct), osl⟩) (hcd : codeIn K cdv qual = true) (hroom : A.depth < recursionLimit)
    (hbind : BindsTo s (fnOf name qual params body scope dV kV doc pm an cdv ct) args binds) (hloc : ∀ y ∈ binds, scope.names.lookup y.1 = some .local)
    (h : ∀ L' h₁, Fr s.heap L' h₁ (fun y => binds.reverse.lookup y) → News s.heap L' h₁ [] → Below A base fr s.heap → K.In s.heap → Top p loose mean mg mb s.heap →
      wpAny (model prog w) (A.deeper (envOf qual scope L' f cdv)) (execs body (envOf qual scope L' f cdv))
        (fun fl s' => R (.ok (.ret (match fl with | .ret v => v | _ => .none))) s') (fun _ _ => False)
        { s with heap := h₁, toks := s.toks + binds.length })
    (hco : scope.isCoroutine = false) (hgen : scope.isGenerator = false) (hk : scope.kind = .function)
    (hcell : ∀ x ∈ scope.names, x.2 ≠ .cell) : codeAny (model prog w) A (.call (.ref f) args) R s := by
  refine codeAny_call_def (fd := fnOf name qual params body scope dV kV doc pm an cdv ct) (body := body) (binds := binds) hroom (M.kin _ _ ho) rfl M.top.nolimit (codeRec_of M.kin hcd) rfl hbind hcell hloc (fun h₁ hns hk₁ => ?_) hco hgen hk
  exact wpAny_mono (h _ h₁ ⟨hns, hk₁, Nat.le_refl _⟩ News.nil M.below M.kin M.top) (fun _ _ x => x) fun _ _ x => x.elim

/-- the same for a def with cells -/
theorem callC (M : Amb K p loose mean mg mb A base fr s.heap)
    (ho : K.lookup f = some ⟨oc, od, .func (fnOf name qual params body scope dV kV doc pm an cdv ct), osl⟩) (hcd : codeIn K cdv qual = true) (hroom : A.depth < recursionLimit)
    (hbind : BindsTo s (fnOf name qual params body scope dV kV doc pm an cdv ct) args binds) (hkind : (binds.all fun y => scope.names.lookup y.1 == some .local || scope.names.lookup y.1 == some .cell) = true)
    (hnd : ((cellsFrom 0 scope.names []).map (·.1)).Nodup)
    (h : ∀ L' h₁ tk cells, Fr s.heap L' h₁ (bindL (envOfC qual scope L' f cdv).kindOf binds fun _ => none) → News s.heap L' h₁ cells →
      CellsAre (bindC (envOfC qual scope L' f cdv).kindOf binds fun _ => none) (cellsFrom (L' + 1) scope.names []) cells → Below A base fr s.heap → K.In s.heap → Top p loose mean mg mb s.heap →
      wpAny (model prog w) (A.deeper (envOfC qual scope L' f cdv)) (execs body (envOfC qual scope L' f cdv))
        (fun fl s' => R (.ok (.ret (match fl with | .ret v => v | _ => .none))) s') (fun _ _ => False)
        { s with heap := h₁, toks := tk })
    (hco : scope.isCoroutine = false) (hgen : scope.isGenerator = false) (hk : scope.kind = .function) : codeAny (model prog w) A (.call (.ref f) args) R s := by
  refine codeAny_call_function hroom (M.kin _ _ ho) rfl hco hgen rfl (codeRec_of M.kin hcd) (hbind _ _ _ _ ?_)
  refine wpAny_newFunctionEnv_cells hk (kindsX hkind _) fun env' he s' x => ?_
  subst he
  refine ⟨(M.top.nolimit).keeps x.toInCall.keep, codeAny_func ?_⟩
  obtain ⟨h₁, tk, rfl, _⟩ := x.done
  have hk₁ := x.toInCall.keep
  obtain ⟨cells, NC, Y⟩ := Cl.news (h₀ := s.heap) (Nat.le_refl _) fun n c hm => ⟨x.cell n c (lookup_of_mem_nodup (cellsFrom_names scope.names 0 (s.heap.objs.size + 1) [] [] rfl ▸ hnd) hm), x.above n c hm⟩
  exact wpAny_mono (h _ h₁ tk cells ⟨x.toInCall.ns, hk₁, Nat.le_refl _⟩ NC Y M.below M.kin M.top) (fun _ _ x => x) fun _ _ x => x.elim

variable {Q : Value → Shared → Prop}
theorem end_bool {b b' : Bool} {h' : Heap} {tk' : Nat} (h : ∀ h' tk', s.heap.StaysIn h' → Q (.bool b) { s with heap := h', toks := tk' }) (e : b = b') (st : s.heap.StaysIn h') : Q (.bool b') { s with heap := h', toks := tk' } := e ▸ h h' tk' st
end
end Mine

end PartMBase
section PartMRe
open PySem PySem.W PySem.Calls PyProof.Rows
set_option maxRecDepth 100000
namespace Mine
theorem plainAttrs_pat : PlainAttrs "re.Pattern" :=
  ⟨⟨"object.__getattribute__", by rw [typeLookup_type, builtinLookup_eq_fast]; kernel_rfl, by decide +kernel⟩, by rw [typeLookup_type, builtinLookup_eq_fast]; kernel_rfl⟩
theorem owner_pat : Manifest.owners.lookup (String.ofList ['n', 'r', 'e', 't', 't', 'a', 'P', '.', 'e', 'r'].reverse) = some Manifest.sig_re_Pattern := by kernel_rfl
theorem slot_search : Slot "re.Pattern" "search" "re.Pattern.search" :=
  .of (owner := "re.Pattern") (n := "search") (by rw [typeLookup_type, builtinLookup_eq_fast]; kernel_rfl) (by decide +kernel) (by decide +kernel) (by decide +kernel)
    (by first | exact .inl (by decide +kernel) | exact .inr (by decide +kernel)) (by rw [isSubtype_type]; kernel_rfl)
theorem type_search : typeOf (.builtin "re.Pattern.search") = pure (.type "method_descriptor") := by show builtinType _ = _; rw [builtinType_eq_fast]; kernel_rfl
theorem entry_search : entryFor table "re.Pattern.search" = some Builtin.«re.Pattern.search» := entryFor_of_tree (by kernel_rfl)
theorem args_search (a b : Value) : argsOk "re.Pattern.search" ⟨[a, b], []⟩ := by
  unfold argsOk; rw [signature?_of (id := "re.Pattern.search") (n := ['h', 'c', 'r', 'a', 'e', 's']) (o := ['n', 'r', 'e', 't', 't', 'a', 'P', '.', 'e', 'r']) (by kernel_rfl) owner_pat]; kernel_rfl
end Mine

end PartMRe
section PartMSre
open PySem PySem.W PySem.Calls PyProof.Rows
set_option maxRecDepth 100000
namespace Mine

abbrev ipCode : Array Nat := #[14, 8, 1, 2, 4294967295, 1, 1, 46, 0, 16, 46, 24, 9, 1, 4294967295, 13, 4, 8, 0, 0, 1, 6, 5, 1]
def stepN : Nat → Sre.M → Sre.M
  | 0, m => m
  | n + 1, m => stepN n m.step
theorem step_done {m : Sre.M} (h : m.outcome.isSome = true) : m.step = m := by unfold Sre.M.step; rw [if_pos h]
theorem stepN_done {m : Sre.M} (h : m.outcome.isSome = true) : ∀ n, stepN n m = m
  | 0 => rfl
  | n + 1 => by rw [stepN, step_done h, stepN_done h n]
theorem runFor_eq : ∀ (n : Nat) (m : Sre.M), m.runFor n = stepN n m
  | 0, _ => rfl
  | n + 1, m => by
    unfold Sre.M.runFor
    by_cases h : m.outcome.isSome = true
    · rw [if_pos h, stepN_done h]
    · rw [if_neg h, runFor_eq n, stepN]
theorem stepN_add : ∀ (a b : Nat) (m : Sre.M), stepN (a + b) m = stepN b (stepN a m)
  | 0, b, m => by rw [Nat.zero_add]; rfl
  | a + 1, b, m => by rw [show a + 1 + b = (a + b) + 1 by omega, stepN, stepN_add a b, stepN]
theorem stepN_past {k n : Nat} {m : Sre.M} (h : (stepN k m).outcome.isSome = true) (hk : k ≤ n) : stepN n m = stepN k m := by
  obtain ⟨d, rfl⟩ := Nat.exists_eq_add_of_le hk
  rw [stepN_add, stepN_done h]

theorem reDrive_wp {M : Model} {A : Around} {E : Value → Shared → Prop} {s : Shared} {Q : Sre.M → Shared → Prop} {k : Nat} : ∀ (t : Nat) (m : Sre.M), k ≤ 4 * t → 0 < t → (stepN k m).outcome.isSome = true → Q (stepN k m) s →
    wpAny M A (Builtin.Re.reDrive t m) Q E s := by
  intro t
  induction t generalizing k with
  | zero => intro m _ h; omega
  | succ t ih =>
    intro m hk _ ho hq
    unfold Builtin.Re.reDrive
    dsimp only [Builtin.Re.reTurnSteps]
    rw [runFor_eq]
    by_cases h4 : (stepN 4 m).outcome.isSome = true
    · rw [if_pos h4]
      refine wpAny_pure ?_
      by_cases hle : k ≤ 4
      · rw [stepN_past ho hle]; exact hq
      · rw [← stepN_past h4 (by omega : 4 ≤ k)]; exact hq
    · rw [if_neg h4]
      refine wpAny_bind (wpAny_rule ?_)
      have hk4 : 4 < k := by
        refine Nat.lt_of_not_le fun hle => h4 ?_
        rw [stepN_past ho hle]; exact ho
      have e : stepN k m = stepN (k - 4) (stepN 4 m) := by rw [← stepN_add]; congr 1; omega
      rw [e] at ho hq
      exact ih _ (by omega) (by omega) ho hq

theorem step_exec {m : Sre.M} (h1 : m.outcome = none) (h2 : m.answer = none) (h3 : m.pc < m.code.size) : m.step = m.exec := by
  unfold Sre.M.step
  rw [h1, h2, if_neg (by decide)]
  dsimp only
  rw [if_pos h3]
theorem step_resume {m : Sre.M} {f : Sre.Frame} {rest : List Sre.Frame} {yes : Bool} (h1 : m.outcome = none) (h2 : m.answer = some yes) (h3 : m.frames = f :: rest) :
    m.step = Sre.M.resume { m with answer := none, frames := rest, weight := m.weight - (1 + f.kept.marks.size), pc := f.pc, pos := f.pos, outermost := f.outermost } f yes := by
  unfold Sre.M.step
  rw [h1, h2, h3, if_neg (by decide)]
theorem step_end {m : Sre.M} {yes : Bool} (h1 : m.outcome = none) (h2 : m.answer = some yes) (h3 : m.frames = []) : m.step.outcome = some (if yes then .matched else .failed) := by
  unfold Sre.M.step
  rw [h1, h2, h3, if_neg (by decide)]
/-- the machine about to try place p -/
def tryAt (text : Array Nat) (p : Nat) (seen : Sre.Seen) (first : Bool) : Sre.M :=
  { code := ipCode, text, lim := text.size, start := p, lastStart := text.size, pc := 9, pos := p, handed := p, outermost := first, marks := #[],
    frames := [{ wait := .nextStart, pc := 9, pos := p, outermost := first }], weight := 1, seen }


def failAt (text : Array Nat) (p pc pos : Nat) (seen : Sre.Seen) (first : Bool) : Sre.M := { tryAt text p seen first with pc, pos, answer := some false }
def dotAt (text : Array Nat) (p : Nat) (seen : Sre.Seen) (first : Bool) : Sre.M := { tryAt text p seen first with pc := 11, pos := p + 1 }
section
variable {text : Array Nat} {p pc pos : Nat} {seen : Sre.Seen} {first : Bool}
theorem s_lit_no (hp : p < text.size) (hn : text.getD p 0 ≠ 46) : (tryAt text p seen first).step = failAt text p 9 p (seen.add 16) first := by
  rw [step_exec rfl rfl (by show 9 < 24; decide)]
  unfold Sre.M.exec
  simp only [Sre.M.word, Sre.ops, Sre.accepts, Sre.M.say, failAt, tryAt, Nat.not_le.mpr hp]
  have hb : (text[p]?.getD 0 == 46) = false := by simpa using hn
  simp
  rw [hb]
theorem s_lit_yes (hp : p < text.size) (hn : text.getD p 0 = 46) : (tryAt text p seen first).step = dotAt text p (seen.add 16) first := by
  rw [step_exec rfl rfl (by show 9 < 24; decide)]
  unfold Sre.M.exec
  simp only [Sre.M.word, Sre.ops, Sre.accepts, Sre.M.say, dotAt, tryAt, Nat.not_le.mpr hp]
  have hb : (text[p]?.getD 0 == 46) = true := by simpa using hn
  simp [Sre.itemWidth, Sre.ops]
  rw [hb]
theorem s_lit_end (hp : text.size ≤ p) : (tryAt text p seen first).step = failAt text p 9 p (seen.add 16) first := by
  rw [step_exec rfl rfl (by show 9 < 24; decide)]
  unfold Sre.M.exec
  simp only [Sre.M.word, Sre.ops, Sre.accepts, Sre.M.say, failAt, tryAt]
  simp [hp]
theorem s_rep_room (hp : text.size ≤ p + 1) : ∃ seen', (dotAt text p seen first).step = failAt text p 11 (p + 1) seen' first := by
  refine ⟨seen.add 24, ?_⟩
  rw [step_exec rfl rfl (by show 11 < 24; decide)]
  unfold Sre.M.exec
  simp only [Sre.M.word, Sre.ops, Sre.accepts, Sre.M.say, failAt, dotAt, tryAt]
  have : (1 : Int) > (text.size : Int) - (p + 1) := by omega
  simp [this]
theorem s_rep_no (hp : p + 1 < text.size) (hn : Sre.isDigit (text.getD (p + 1) 0) = false) : ∃ seen', (dotAt text p seen first).step = failAt text p 11 (p + 1) seen' first := by
  refine ⟨((((seen.add 24).add 13).add 8).add 55).add 0, ?_⟩
  · rw [step_exec rfl rfl (by show 11 < 24; decide)]
    unfold Sre.M.exec
    have h1 : ¬ (1 : Int) > (text.size : Int) - (p + 1) := by omega
    have h2 : ∃ n, min 4294967295 ((text.size : Int) - (p + 1)).toNat = n + 1 := ⟨min 4294967295 ((text.size : Int) - (p + 1)).toNat - 1, by omega⟩
    obtain ⟨n, h2⟩ := h2
    simp only [Sre.M.word, Sre.ops, Sre.M.say, failAt, dotAt, tryAt]
    simp [h1, h2, Sre.run, Sre.accepts, Sre.inSet, Sre.category, Sre.ops]
    rw [show Sre.isDigit (text[p + 1]?.getD 0) = false from by simpa using hn]
    rfl
theorem s_resume (hp : p < text.size) : (failAt text p pc pos seen first).step = tryAt text (p + 1) seen false := by
  rw [step_resume rfl rfl rfl]
  unfold Sre.M.resume
  simp only [failAt, tryAt]
  simp [hp, Sre.M.attemptFrom, Sre.M.hasFirstSet, Sre.ops, Sre.M.attemptAt, Sre.M.attempt]
theorem s_over (hp : text.size ≤ p) : (stepN 2 (failAt text p pc pos seen first)).outcome = some .failed := by
  simp only [stepN]
  have e : (failAt text p pc pos seen first).step = { failAt text p 9 p seen first with frames := [], weight := 0 } := by
    rw [step_resume rfl rfl rfl]
    unfold Sre.M.resume
    simp only [failAt, tryAt]
    simp [Nat.not_lt.mpr hp, Sre.M.say]
  rw [e]
  rfl
theorem try_next (hd : ∀ c ∈ text, ¬ (48 ≤ c ∧ c ≤ 57)) (hp : p < text.size) :
    ∃ k seen', k ≤ 3 ∧ stepN k (tryAt text p seen first) = tryAt text (p + 1) seen' false := by
  by_cases h46 : text.getD p 0 = 46
  · have h3 : ∃ seen', (dotAt text p (seen.add 16) first).step = failAt text p 11 (p + 1) seen' first := by
      by_cases hr : p + 1 < text.size
      · refine s_rep_no hr ?_
        have hg1 : text.getD (p + 1) 0 = text[p + 1] := by simp [Array.getD, hr]
        have hnd := hd text[p + 1] (Array.getElem_mem hr)
        rw [hg1]
        unfold Sre.isDigit
        simp only [Bool.and_eq_false_iff, decide_eq_false_iff_not]
        omega
      · exact s_rep_room (by omega)
    obtain ⟨seen', h3⟩ := h3
    exact ⟨3, seen', by omega, by simp only [stepN]; rw [s_lit_yes hp h46, h3, s_resume hp]⟩
  · exact ⟨2, _, by omega, by simp only [stepN]; rw [s_lit_no hp h46, s_resume hp]⟩
theorem try_all (hd : ∀ c ∈ text, ¬ (48 ≤ c ∧ c ≤ 57)) : ∀ (d p : Nat) (seen : Sre.Seen) (first : Bool), p + d = text.size → ∃ k, k ≤ 3 * d + 3 ∧ (stepN k (tryAt text p seen first)).outcome = some .failed
  | 0, p, seen, first, h => ⟨3, by omega, by
      rw [show (3 : Nat) = 1 + 2 from rfl, stepN_add]
      show (stepN 2 (tryAt text p seen first).step).outcome = _
      rw [s_lit_end (by omega)]
      exact s_over (by omega)⟩
  | d + 1, p, seen, first, h => by
    obtain ⟨k, seen', hk, e⟩ := try_next (seen := seen) (first := first) hd (by omega : p < text.size)
    obtain ⟨k', hk', e'⟩ := try_all hd d (p + 1) seen' false (by omega)
    exact ⟨k + k', by omega, by rw [stepN_add, e, e']⟩
theorem search_ends (hd : ∀ c ∈ text, ¬ (48 ≤ c ∧ c ≤ 57)) : ∃ k, k ≤ 3 * text.size + 3 ∧ (stepN k (Sre.forSearch ipCode text 0 0 text.size false)).outcome = some .failed := by
  by_cases h : text.size < 2
  · refine ⟨1, by omega, ?_⟩
    have e : (Sre.forSearch ipCode text 0 0 text.size false).outcome = none ∧ (Sre.forSearch ipCode text 0 0 text.size false).answer = some false ∧ (Sre.forSearch ipCode text 0 0 text.size false).frames = [] := by
      unfold Sre.forSearch
      rw [if_pos (by simp [Sre.header, Sre.ops, h])]
      exact ⟨rfl, rfl, rfl⟩
    simp only [stepN]
    rw [step_end e.1 e.2.1 e.2.2]
    rfl
  · have e : ∃ seen, Sre.forSearch ipCode text 0 0 text.size false = tryAt text 0 seen true := by
      refine ⟨({} : Sre.Seen).add 14, ?_⟩
      unfold Sre.forSearch
      simp [Sre.header, Sre.ops, h]
      rfl
    obtain ⟨seen, e⟩ := e
    rw [e]
    exact try_all hd text.size 0 seen true (by omega)
end

def noDigit (x : Str) : Prop := ∀ c ∈ x.cps, ¬ (48 ≤ c ∧ c ≤ 57)
section
variable {prog : Program} {w : World} {A : Around} {s : Shared} {Q E : Value → Shared → Prop}
theorem reNamed_one (v : Value) : Builtin.Re.reNamed "re.Pattern.search" "search" ["string", "pos", "endpos"] 1 [v] [] = pure [some v, none, none] := by
  rfl
theorem ruleLoop {M : Model} {A : Around} {E : Value → Shared → Prop} {s : Shared} {m : Sre.M} {Q : PUnit → Shared → Prop} (h : Q ⟨⟩ s) : ∀ l : List Nat,
    wpAny M A (forIn l PUnit.unit (fun i _ => do
      if m.seen.has i then
        rule (Sre.names.getD i "")
        pure (ForInStep.yield PUnit.unit)
      else pure (ForInStep.yield PUnit.unit))) Q E s := by
  intro l
  induction l with
  | nil => exact wpAny_pure h
  | cons a r ih =>
    rw [List.forIn_cons]
    refine wpAny_bind ?_
    by_cases hh : m.seen.has a = true
    · rw [if_pos hh]
      exact wpAny_bind (wpAny_rule (wpAny_pure ih))
    · rw [if_neg hh]
      exact wpAny_pure ih
theorem search_wp {P C : Addr} {x : Str} {t : Tok} {v0 v1 v3 v4 : Value} {i2 i6 : Nat} {sl sl' : Array (Option Value)} {dd : Option Addr} {n : Nat} {items : Array Value}
    (hp : s.heap.get? P = some ⟨.type "re.Pattern", none, .fields #[v0, v1, .int 0 i2, v3, v4, .ref C, .int 0 i6], sl⟩)
    (hc : s.heap.get? C = some ⟨.type "tuple", dd, .seq items n, sl'⟩) (hi : (items.map Builtin.Re.reRawOf).map (·.toNat) = ipCode)
    (hx : noDigit x) (hl : x.cps.size ≤ 1048576) (h : Q .none s) : wpAny (model prog w) A (call (.builtin "re.Pattern.search") [.ref P, .str x t]) Q E s := by
  refine wpAny_call_entry slot_search ⟨_, hp, rfl⟩ entry_search ?_ (args_search _ _)
  unfold Builtin.«re.Pattern.search» Builtin.Re.reTarget
  refine wpAny_bind ?_
  dsimp only
  rw [reNamed_one]
  refine wpAny_bind (wpAny_pure ?_)
  dsimp only
  refine wpAny_bind (wpAny_pure ?_)
  refine wpAny_bind (wpAny_pure ?_)
  refine wpAny_bind (wpAny_fieldsOf hp rfl ?_)
  refine wpAny_bind (show wpAny _ _ (pure (x.cps, 0)) _ _ _ from wpAny_pure ?_)
  dsimp only
  rw [if_neg (by simp), if_neg (by simp [Builtin.Re.reRawNat])]
  refine wpAny_bind (show wpAny _ _ (pure ()) _ _ _ from wpAny_pure ?_)
  refine wpAny_bind ?_
  show wpAny _ _ (Builtin.Re.reRawItems (.ref C)) _ _ _
  unfold Builtin.Re.reRawItems
  refine wpAny_bind (wpAny_seqItems hc rfl (wpAny_pure (wpAny_pure ?_)))
  dsimp only [Option.getD]
  rw [hi]
  unfold Builtin.Re.reAnswer Builtin.Re.reRunToEnd
  have ec : min (2 ^ 63 - 1 : Int).toNat x.cps.size = x.cps.size := by omega
  have e0 : min (0 : Int).toNat x.cps.size = 0 := by simp
  rw [ec, e0]
  show wpAny _ _ (_ >>= _) _ _ _
  obtain ⟨k, hk, ho⟩ := search_ends (text := x.cps) hx
  refine wpAny_bind (wpAny_bind (reDrive_wp (2 ^ 64) _ (k := k) (by omega) (by omega) (by rw [show Builtin.Re.reRawNat (#[v0, v1, .int 0 i2, v3, v4, .ref C, .int 0 i6].getD 2 .none) = 0 from rfl, ho]; rfl) ?_))
  refine wpAny_bind (ruleLoop ?_ _)
  rw [show Builtin.Re.reRawNat (#[v0, v1, .int 0 i2, v3, v4, .ref C, .int 0 i6].getD 2 .none) = 0 from rfl, ho]
  exact wpAny_pure (wpAny_pure ⟨_, rfl, h⟩)
/-- the same in the caller's frame, by the written part -/
theorem search_K {K : Frag} {h₀ : Heap} {L : Addr} {m : Str → Option Value} {P C : Addr} {x : Str} {t : Tok} {v0 v1 v3 v4 : Value} {i2 i6 : Nat} {sl sl' : Array (Option Value)} {dd : Option Addr} {n : Nat} {items : Array Value}
    (F : Fr h₀ L s.heap m) (X : K.In h₀) (hp : K.lookup P = some ⟨.type "re.Pattern", none, .fields #[v0, v1, .int 0 i2, v3, v4, .ref C, .int 0 i6], sl⟩)
    (hc : K.lookup C = some ⟨.type "tuple", dd, .seq items n, sl'⟩) (hi : (items.map Builtin.Re.reRawOf).map (·.toNat) = ipCode)
    (hx : noDigit x) (hl : x.cps.size ≤ 1048576) (h : Q .none s) : wpAny (model prog w) A (call (.builtin "re.Pattern.search") [.ref P, .str x t]) Q E s :=
  search_wp ((X.keeps F.keep) _ _ hp) ((X.keeps F.keep) _ _ hc) hi hx hl h
theorem searchMeth_K {K : Frag} {h₀ : Heap} {L : Addr} {m : Str → Option Value} {P : Addr} {pl : Sem Bool} {dt : Data} {sl : Array (Option Value)} {Q : Value × List Value → Shared → Prop}
    (F : Fr h₀ L s.heap m) (X : K.In h₀) (hp : K.lookup P = some ⟨.type "re.Pattern", none, dt, sl⟩)
    (h : Q (.builtin "re.Pattern.search", [.ref P]) s) : wpAny (model prog w) A (getMethod (.ref P) "search" pl) Q E s :=
  getMethod_builtin ⟨_, (X.keeps F.keep) _ _ hp, rfl⟩ plainAttrs_pat slot_search type_search (fun a e => by cases e; exact ⟨_, (X.keeps F.keep) _ _ hp, rfl⟩) h
end
end Mine

end PartMSre
section PartMStr
open PySem PySem.W PySem.Calls PyProof.Rows
set_option maxRecDepth 100000
namespace Mine
/-- a text by its signs -/
def S (l : List Nat) : Str := ⟨l.toArray⟩
theorem S_len (l : List Nat) : (S l).length = l.length := by simp [S, Str.length]
theorem S_cps (l : List Nat) : (S l).cps.toList = l := rfl
theorem S_inj {l k : List Nat} (h : S l = S k) : l = k := by have := congrArg (fun x : Str => x.cps.toList) h; simpa [S_cps] using this
theorem S_app (l k : List Nat) : S l ++ S k = S (l ++ k) := Str.ext' (by rw [Str.cps_append]; simp [S])
theorem S_beq (l k : List Nat) : (S l == S k) = decide (l = k) := by
  by_cases h : l = k
  · subst h; simp
  · rw [decide_eq_false h]
    cases hb : S l == S k with
    | false => rfl
    | true => exact absurd (S_inj (eq_of_beq hb)) h
theorem S_noDigit {l : List Nat} (h : ∀ c ∈ l, ¬ (48 ≤ c ∧ c ≤ 57)) : noDigit (S l) := fun c hc => h c (by simpa [S] using hc)
theorem lower_S {l : List Nat} (h : ∀ c ∈ l, c < 128) : Txt.lower (S l) = S (l.map lo1) := by
  rw [lower_ascii (by simpa [S] using h)]
  simp [S]
theorem subAt_S (l k : List Nat) (i : Nat) : Builtin.Str.subAt (S l) (S k) i = ((l.drop i).take k.length == k) := by
  rw [StrLaws.subAt_eq, S_cps, S_cps, S_len]
theorem starts_dot (l : List Nat) : Txt.startswith (S l) (S [46]) = (l.head? == some 46) := by
  unfold Txt.startswith
  rw [subAt_S, S_len, S_len]
  cases l with
  | nil => rfl
  | cons a r => simp
theorem ends_S (l k : List Nat) : Txt.endswith (S l) (S k) = k.isSuffixOf l := by
  unfold Txt.endswith
  rw [subAt_S, S_len, S_len]
  by_cases h : k <:+ l
  · rw [List.isSuffixOf_iff_suffix.mpr h]
    obtain ⟨t, rfl⟩ := h
    simp
  · have hf : k.isSuffixOf l = false := by
      cases hb : k.isSuffixOf l with
      | false => rfl
      | true => exact absurd (List.isSuffixOf_iff_suffix.mp hb) h
    rw [hf]
    simp only [Bool.and_eq_false_iff, decide_eq_false_iff_not]
    by_cases hl : 0 + k.length ≤ l.length
    · refine .inr ?_
      cases hb : (List.take k.length (List.drop (l.length - k.length) l) == k) with
      | false => rfl
      | true =>
        refine absurd ?_ h
        have e := eq_of_beq hb
        rw [List.take_of_length_le (by simp; omega)] at e
        rw [← e]
        exact List.drop_suffix _ _
    · exact .inl hl
def findDot (l : List Nat) : Int := if 46 ∈ l then (l.idxOf 46 : Int) else -1
theorem at_S {l : List Nat} {i : Nat} : StrLaws.At (S l) (S [46]) (S l).length i ↔ l[i]? = some 46 := by
  unfold StrLaws.At
  rw [subAt_S, S_len, S_len]
  rw [show [46].length = 1 from rfl, StrLaws.take1_drop]
  constructor
  · exact fun h => h.2
  · intro h
    refine ⟨?_, h⟩
    have := (List.getElem?_eq_some_iff.mp h).1
    omega
theorem find_dot (l : List Nat) : Txt.find (S l) (S [46]) = findDot l := by
  unfold Txt.find findDot
  rcases StrLaws.occ_head (S l) (S [46]) 1 (Nat.le_refl _) with ⟨h0, hn⟩ | ⟨i, r, h0, ha, hn⟩
  · rw [h0]
    dsimp only
    rw [if_neg]
    intro hm
    obtain ⟨i, hi, e⟩ := List.getElem_of_mem hm
    exact hn i (at_S.mpr (by rw [List.getElem?_eq_getElem hi, e]))
  · rw [h0]
    dsimp only
    have hi := at_S.mp ha
    have hm : 46 ∈ l := List.mem_of_getElem? hi
    rw [if_pos hm]
    congr 1
    have hlt := List.idxOf_lt_length_of_mem hm
    rcases Nat.lt_trichotomy i (l.idxOf 46) with h | h | h
    · exfalso
      have h' := List.not_of_lt_findIdx (p := fun x => x == 46) (xs := l) h
      rw [List.getElem?_eq_some_iff] at hi
      obtain ⟨hh, e⟩ := hi
      simp [e] at h'
    · exact h
    · exfalso
      refine hn _ h (at_S.mpr ?_)
      rw [List.getElem?_eq_getElem hlt, List.getElem_idxOf]
theorem slice_S {l : List Nat} {i : Int} (h0 : 0 ≤ i) (h1 : i ≤ l.length) : Txt.slice (S l) (some i) none = S (l.drop i.toNat) := by
  show StrLaws.sliceText (S l) (some i) none = _
  rw [StrLaws.sliceText_from ⟨h0, by rw [S_cps]; exact h1⟩, S_cps]
  congr 2
  rw [List.take_of_length_le]
  simp
  omega
theorem sDot : Str.ofString "." = S [46] := by decide +kernel
theorem sNil : Str.ofString "" = S [] := by decide +kernel
theorem sLocal : Str.ofString "local" = S [108, 111, 99, 97, 108] := by decide +kernel
theorem sDotLocal : Str.ofString ".local" = S [46, 108, 111, 99, 97, 108] := by decide +kernel
theorem sX : Str.ofString "x" = S [120] := by decide +kernel
theorem sA : Str.ofString "A" = S [65] := by decide +kernel
theorem sDota : Str.ofString ".a" = S [46, 97] := by decide +kernel
theorem sDotB : Str.ofString ".B" = S [46, 66] := by decide +kernel
theorem sDotJ : Str.ofString ".J" = S [46, 74] := by decide +kernel
theorem sDotE : Str.ofString ".E" = S [46, 69] := by decide +kernel

section
variable {prog : Program} {w : World} {A : Around} {s : Shared} {E : Value → Shared → Prop} {Q : Value → Shared → Prop} {l k : List Nat} {t u : Tok} {h₀ : Heap} {L : Addr} {m : Str → Option Value} {news : List (Addr × Obj)}
theorem fits6 {n : Nat} (h : n ≤ 1000000) : n ≤ sizeLine := by rw [sizeLine_eq]; omega
theorem r_const {M : Model} {env : Env} {x : Str} {kd : Nat} {pos : Pos} (e : x = S l) (h : ∀ t' tk', Q (.str (S l) t') { s with toks := tk' }) : wpAny M A (eval (.Constant (.str x) kd pos) env) Q E s :=
  wpAny_Constant_str (e ▸ h _ _)
theorem r_lower (ha : ∀ c ∈ l, c < 128) (hz : l.length ≤ 1000000) (h : ∀ t' tk', Q (.str (S (l.map lo1)) t') { s with toks := tk' }) :
    wpAny (model prog w) A (call (.builtin "str.lower") [.str (S l) t]) Q E s :=
  SC.lower (fit_lower (by rw [S_len]; omega)) (by rw [lower_S ha]; exact h _ _)
theorem r_starts (h : Q (.bool (l.head? == some 46)) s) : wpAny (model prog w) A (call (.builtin "str.startswith") [.str (S l) t, .str (S [46]) u]) Q E s :=
  SC.startswith (by rw [starts_dot]; exact h)
theorem r_ends (h : Q (.bool (k.isSuffixOf l)) s) : wpAny (model prog w) A (call (.builtin "str.endswith") [.str (S l) t, .str (S k) u]) Q E s :=
  SC.endswith (by rw [ends_S]; exact h)
theorem r_find (h : ∀ t' tk', Q (.int (findDot l) t') { s with toks := tk' }) : wpAny (model prog w) A (call (.builtin "str.find") [.str (S l) t, .str (S [46]) u]) Q E s :=
  SC.find (by rw [find_dot]; exact h _ _)
theorem r_eq (h : Q (.bool (decide (l = k))) s) : wpAny (model prog w) A (compareOp .Eq (.str (S l) t) (.str (S k) u)) Q E s :=
  PyProof.Rows.eq_str (by rw [S_beq]; exact h)
theorem r_add (hz : l.length + k.length ≤ 1000000) (h : ∀ t' tk', Q (.str (S (l ++ k)) t') { s with toks := tk' }) : wpAny (model prog w) A (binaryOp .Add (.str (S l) t) (.str (S k) u)) Q E s :=
  PyProof.Rows.add_str (fun t' tk' => by rw [S_app]; exact h _ _) (by rw [S_len, S_len]; exact fits6 hz)
theorem r_from {value slice : Expr} {i : Int} {ui : Tok} (hF : Fr h₀ L s.heap m) (hN : News h₀ L s.heap news) (h0 : 0 ≤ i) (h1 : i ≤ l.length) (hz : l.length ≤ 1000000)
    (h : ∀ h' t' tk', Fr h₀ L h' m → News h₀ L h' news → Q (.str (S (l.drop i.toNat)) t') { s with heap := h', toks := tk' })
    (hs : subscripted slice false (.str (S l) t) (.ref s.heap.objs.size) = operate [.ref s.heap.objs.size, .str (S l) t] (getItem (.str (S l) t) (.ref s.heap.objs.size)) := by with_unfolding_all rfl)
    (ht : ∀ r, letTemporaryGo value (.str (S l) t) r = pure () := by intro _; with_unfolding_all rfl) :
    wpAny (model prog w) A (subscriptTail value slice (.str (S l) t) (.ref s.heap.objs.size)) Q E { s with heap := s.heap.push { cls := .type "slice", data := .fields #[.int i ui, .none, .none] } } :=
  slice_strN_sn hF hN (fun h' t' tk' a b => by rw [slice_S h0 h1]; exact h h' t' tk' a b) hs ht (by rw [S_len]; exact fits6 hz)
theorem item_S {i : Int} {j : Nat} (hj : seqIndex? i l.length = some j) {c : Nat} (hc : l[j]? = some c) : Txt.item (S l) i = S [c] := by
  unfold Txt.item Txt.charAt
  rw [S_len, hj]
  have : (S l).cps[j]? = some c := by rw [← Array.getElem?_toList, S_cps]; exact hc
  rw [Option.bind_some, this]
  rfl
theorem r_item {value slice : Expr} {i : Int} {ui : Tok} {j c : Nat} (hj : seqIndex? i l.length = some j) (hc : l[j]? = some c) (hz : l.length ≤ 1000000)
    (h : ∀ t' tk', Q (.str (S [c]) t') { s with toks := tk' })
    (hs : subscripted slice false (.str (S l) t) (.int i ui) = operate [.str (S l) t, .int i ui] (getItem (.str (S l) t) (.int i ui)) := by with_unfolding_all rfl)
    (ht : ∀ r, letTemporaryGo value (.str (S l) t) r = pure () := by intro _; with_unfolding_all rfl) :
    wpAny (model prog w) A (subscriptTail value slice (.str (S l) t) (.int i ui)) Q E s := by
  have hb : -(l.length : Int) ≤ i ∧ i < l.length := by
    unfold seqIndex? at hj
    by_cases hh : (decide (0 ≤ (if i < 0 then i + (l.length : Int) else i)) && decide ((if i < 0 then i + (l.length : Int) else i) < (l.length : Int))) = true
    · simp only [Bool.and_eq_true, decide_eq_true_eq] at hh
      split at hh <;> omega
    · dsimp only at hj
      rw [if_neg hh] at hj
      cases hj
  exact KXi.item (n := l.length) (S_len l) hb.1 hb.2 (by omega) (fun _ => by rw [item_S hj hc]; exact h _ _) hs ht
theorem r_item0 {value slice : Expr} {ui : Tok} {c : Nat} {r : List Nat} (hz : (c :: r).length ≤ 1000000) (h : ∀ t' tk', Q (.str (S [c]) t') { s with toks := tk' })
    (hs : subscripted slice false (.str (S (c :: r)) t) (.int 0 ui) = operate [.str (S (c :: r)) t, .int 0 ui] (getItem (.str (S (c :: r)) t) (.int 0 ui)) := by with_unfolding_all rfl)
    (ht : ∀ x, letTemporaryGo value (.str (S (c :: r)) t) x = pure () := by intro _; with_unfolding_all rfl) :
    wpAny (model prog w) A (subscriptTail value slice (.str (S (c :: r)) t) (.int 0 ui)) Q E s :=
  r_item (j := 0) (c := c) (by unfold seqIndex?; simp) rfl hz h hs ht
theorem r_itemL {value slice : Expr} {ui : Tok} {c : Nat} (hc : l.getLast? = some c) (hz : l.length ≤ 1000000) (h : ∀ t' tk', Q (.str (S [c]) t') { s with toks := tk' })
    (hs : subscripted slice false (.str (S l) t) (.int (-1) ui) = operate [.str (S l) t, .int (-1) ui] (getItem (.str (S l) t) (.int (-1) ui)) := by with_unfolding_all rfl)
    (ht : ∀ x, letTemporaryGo value (.str (S l) t) x = pure () := by intro _; with_unfolding_all rfl) :
    wpAny (model prog w) A (subscriptTail value slice (.str (S l) t) (.int (-1) ui)) Q E s := by
  rw [List.getLast?_eq_getElem?] at hc
  have hl := (List.getElem?_eq_some_iff.mp hc).1
  exact r_item (j := l.length - 1) (c := c) (by unfold seqIndex?; simp; omega) hc hz h hs ht
theorem end_str {l l' : List Nat} {h' : Heap} {t' : Tok} {tk' : Nat} (h : ∀ h' t' tk', s.heap.StaysIn h' → Q (.str (S l) t') { s with heap := h', toks := tk' }) (e : l' = l) (st : s.heap.StaysIn h') : Q (.str (S l') t') { s with heap := h', toks := tk' } := e ▸ h h' t' tk' st
end
end Mine

end PartMStr
section PartMDig
open PySem PySem.W PySem.Calls PyProof.Rows
set_option maxRecDepth 100000
namespace Mine
/-- the figures to the base 16, the highest first -/
def digs (n : Nat) : List Nat := if h : n = 0 then [] else digs (n / 16) ++ [n % 16]
termination_by n
decreasing_by omega
theorem digs_zero : digs 0 = [] := by unfold digs; simp
theorem digs_pos {n : Nat} (h : n ≠ 0) : digs n = digs (n / 16) ++ [n % 16] := by rw [digs]; simp [h]
theorem digs_lt (n : Nat) : ∀ d ∈ digs n, d < 16 := by
  induction n using Nat.strongRecOn with
  | ind n ih =>
    by_cases h : n = 0
    · subst h; rw [digs_zero]; intro d hd; cases hd
    · rw [digs_pos h]
      intro d hd
      rcases List.mem_append.mp hd with q | q
      · exact ih (n / 16) (by omega) d q
      · rw [List.mem_singleton] at q; omega
theorem digs_len {n k : Nat} (h : n < 16 ^ k) : (digs n).length ≤ k := by
  induction k generalizing n with
  | zero =>
    have : n = 0 := by simpa using h
    subst this; rw [digs_zero]; exact Nat.le_refl _
  | succ k ih =>
    by_cases h0 : n = 0
    · subst h0; rw [digs_zero]; exact Nat.zero_le _
    · rw [digs_pos h0, List.length_append, List.length_singleton]
      have : n / 16 < 16 ^ k := by
        rw [Nat.div_lt_iff_lt_mul (by omega)]
        rw [Nat.pow_succ] at h; exact h
      have := ih this
      omega
abbrev AP : Array UInt8 := #[65, 66, 67, 68, 69, 70, 71, 72, 73, 74, 75, 76, 77, 78, 79, 80]
def apB (l : List Nat) : Array UInt8 := (l.map fun d => UInt8.ofNat (65 + d)).toArray
theorem apB_app (l k : List Nat) : apB l ++ apB k = apB (l ++ k) := by simp [apB]
theorem apB_size (l : List Nat) : (apB l).size = l.length := by simp [apB]
theorem ap_pick : ∀ d : Nat, d < 16 → KBy.picked AP (some (d : Int)) (some ((d : Int) + 1)) = apB [d] := by decide +kernel
section
variable {prog : Program} {w : World} {A : Around} {s : Shared} {E : Value → Shared → Prop} {Q : Value → Shared → Prop} {t u : Tok} {h₀ : Heap} {L : Addr} {m : Str → Option Value} {news : List (Addr × Obj)}
theorem r_ap {value slice : Expr} {n : Nat} {u1 u2 : Tok} (hF : Fr h₀ L s.heap m) (hN : News h₀ L s.heap news)
    (h : ∀ h' t' tk', Fr h₀ L h' m → News h₀ L h' news → Q (.bytes (apB [n % 16]) t') { s with heap := h', toks := tk' })
    (hs : subscripted slice false (.bytes AP t) (.ref s.heap.objs.size) = operate [.ref s.heap.objs.size, .bytes AP t] (getItem (.bytes AP t) (.ref s.heap.objs.size)) := by with_unfolding_all rfl)
    (ht : ∀ r, letTemporaryGo value (.bytes AP t) r = pure () := by intro _; with_unfolding_all rfl) :
    wpAny (model prog w) A (subscriptTail value slice (.bytes AP t) (.ref s.heap.objs.size)) Q E { s with heap := s.heap.push { cls := .type "slice", data := .fields #[.int ((n : Int).fmod 16) u1, .int ((n : Int).fmod 16 + 1) u2, .none] } } :=
  KBc.slice_K (ks := KBw.bInts AP) hF hN rfl (.int _ _) (.int _ _) (by decide) (fun h' t' tk' a b _ => by
    have e : (n : Int).fmod 16 = ((n % 16 : Nat) : Int) := by rw [Int.fmod_eq_emod_of_nonneg _ (by omega)]; rfl
    rw [e, ap_pick _ (by omega)]
    exact h h' t' tk' a b) hs ht
theorem r_addB {l k : List Nat} (hz : l.length + k.length ≤ 1000000) (h : ∀ t' tk', Q (.bytes (apB (l ++ k)) t') { s with toks := tk' }) : wpAny (model prog w) A (binaryOp .Add (.bytes (apB l) t) (.bytes (apB k) u)) Q E s :=
  KBy.add_bytes (by rw [apB_size, apB_size]; omega) fun t' tk' => by rw [apB_app]; exact h t' tk'
theorem end_bytes {b b' : Array UInt8} {h' : Heap} {t' : Tok} {tk' : Nat} (h : ∀ h' t' tk', s.heap.StaysIn h' → Q (.bytes b t') { s with heap := h', toks := tk' }) (e : b' = b) (st : s.heap.StaysIn h') : Q (.bytes b' t') { s with heap := h', toks := tk' } := e ▸ h h' t' tk' st
theorem fdiv16 (n : Nat) : (n : Int).fdiv 16 = ((n / 16 : Nat) : Int) := by rw [Int.fdiv_eq_ediv_of_nonneg _ (by omega)]; rfl
theorem fmod16 (n : Nat) : (n : Int).fmod 16 = ((n % 16 : Nat) : Int) := by rw [Int.fmod_eq_emod_of_nonneg _ (by omega)]; rfl
end
end Mine

end PartMDig
section PartMComp
open PySem PySem.W PySem.Calls PyProof.Rows
set_option maxRecDepth 100000
namespace Mine

/-- what a comprehension's iterator is asked for -/
def CompGo (prog : Program) (w : World) (A : Around) (env : Env) (scope : Scope) (cl : List (Str × Addr)) (x : Str) (ifs : List Expr) (elt : Expr) (Q : Value → Shared → Prop) (it : Value) (s₂ : Shared) : Prop :=
  ∃ (p : Value → Bool) (F : Value → Value → Prop) (I : Addr) (fp wr : List Addr) (n : Nat) (P : Nat → Value → Prop) (St : Nat → Heap → Prop), it = .ref I ∧ Walks prog w A I fp wr n P St ∧ n ≤ sizeLine ∧ St 0 s₂.heap ∧ (∀ b ∈ fp, b < s₂.heap.objs.size) ∧
    QuietOnC prog w A env scope cl x ifs elt wr P p F s₂ ∧
    (∀ D h' tk ys (vs : List Value), s₂.heap.get? D = none → h'.IsList D ys → h'.PlainList D ys → vs.length = n → (∀ j v, vs[j]? = some v → P j v) → Paired F (vs.filter p) ys.toList →
      (∀ b o, b ∉ wr → s₂.heap.get? b = some o → h'.get? b = some o) → Q (.ref D) { s₂ with heap := h', toks := tk })
/-- and in an assignment -/
def CompGoA (prog : Program) (w : World) (A : Around) (env : Env) (scope : Scope) (cl : List (Str × Addr)) (x y : Str) (ifs : List Expr) (elt : Expr) (Q : Flow → Shared → Prop) (it : Value) (s₂ : Shared) : Prop :=
  ∃ (p : Value → Bool) (F : Value → Value → Prop) (I : Addr) (fp wr : List Addr) (n : Nat) (P : Nat → Value → Prop) (St : Nat → Heap → Prop) (m : Str → Option Value), it = .ref I ∧ Walks prog w A I fp wr n P St ∧ n ≤ sizeLine ∧ St 0 s₂.heap ∧ (∀ b ∈ fp, b < s₂.heap.objs.size) ∧
    env.locals ∉ wr ∧ s₂.heap.Ns env.locals m ∧ QuietOnC prog w A env scope cl x ifs elt wr P p F s₂ ∧
    (∀ D h' tk ys (vs : List Value), s₂.heap.get? D = none → h'.IsList D ys → h'.PlainList D ys → vs.length = n → (∀ j v, vs[j]? = some v → P j v) → Paired F (vs.filter p) ys.toList →
      h'.Ns env.locals (fun z => if z = y then some (.ref D) else m z) → (∀ b o, b ≠ env.locals → b ∉ wr → s₂.heap.get? b = some o → h'.get? b = some o) → Q .next { s₂ with heap := h', toks := tk })

section
variable {prog : Program} {w : World} {A : Around} {E : Value → Shared → Prop} {env : Env} {s : Shared}
def CompIt (prog : Program) (w : World) (A : Around) (E : Value → Shared → Prop) (env : Env) (scope : Scope) (cl : List (Str × Addr)) (x : Str) (ifs : List Expr) (elt : Expr) (Q : Value → Shared → Prop) (xv : Value) (s₁ : Shared) : Prop :=
  wpAny (model prog w) A (pyIter xv) (CompGo prog w A env scope cl x ifs elt Q) E s₁
def CompItA (prog : Program) (w : World) (A : Around) (E : Value → Shared → Prop) (env : Env) (scope : Scope) (cl : List (Str × Addr)) (x y : Str) (ifs : List Expr) (elt : Expr) (Q : Flow → Shared → Prop) (xv : Value) (s₁ : Shared) : Prop :=
  wpAny (model prog w) A (pyIter xv) (CompGoA prog w A env scope cl x y ifs elt Q) E s₁

theorem compE {elt iter : Expr} {x : Str} {px : Pos} {ifs : List Expr} {scope : Scope} {cl : List (Str × Addr)} {pos : Pos} {Q : Value → Shared → Prop}
    (hclos : closureFor scope env = pure cl) (hcell : ∀ y ∈ scope.names, y.2 ≠ .cell) (hkind : scope.kind = .function)
    (hnames : ∀ y ∈ scope.names, y.2 = .local → scope.names.lookup y.1 = some .local) (hx : scope.names.lookup x = some .local)
    (hs : ∀ x, foldedSetIterable iter env x = pure x)
    (h : wpAny (model prog w) A (eval iter env) (CompIt prog w A E env scope cl x ifs elt Q) E s) :
    wpAny (model prog w) A (eval (.ListComp elt [⟨.Name x px, iter, ifs, 0⟩] scope pos) env) Q E s := by
  rw [eval_ListComp]
  refine wpAny_comprehension_free (use := none) rfl hs hclos hkind hnames (wpAny_mono h (fun xv s₁ h₁ => wpAny_mono h₁ (fun it s₂ h₂ => ?_) fun _ _ e => e) fun _ _ e => e)
  obtain ⟨p, F, I, fp, wr, n, P, St, rfl, W, hsz, hst, hfp, hq, hQ⟩ := h₂
  refine comp_block_walkC (RR := fun acc C => compPost (model prog w) A E none Q acc C) W hsz p F hcell hkind hx hst hfp hq ?_
  intro D C h' tk m' ys vs hD hC hDC hn hl hpl hlen hP hF hk
  exact ⟨m', hn, fun h'' hs'' => hQ D h'' tk ys vs hD (hl.extBut hs''.extBut hDC) (hpl.extBut hs''.extBut hDC) hlen hP hF fun b o hbf e => hs''.extBut b o (by rintro rfl; rw [hC] at e; cases e) (hk b o hbf e)⟩

theorem compA {elt iter : Expr} {x y : Str} {px py : Pos} {ifs : List Expr} {scope : Scope} {cl : List (Str × Addr)} {pos spos : Pos} {Q : Flow → Shared → Prop}
    (hsw : swapsWith (.ListComp elt [⟨.Name x px, iter, ifs, 0⟩] scope pos) (some (.Name y py)) spos.line env = pure true)
    (hclos : closureFor scope env = pure cl) (hcell : ∀ z ∈ scope.names, z.2 ≠ .cell) (hkind : scope.kind = .function)
    (hnames : ∀ z ∈ scope.names, z.2 = .local → scope.names.lookup z.1 = some .local) (hx : scope.names.lookup x = some .local)
    (hy : env.kindOf y = some .local) (hp : (env.scope.kind == .class || (env.scope.kind == .module && env.locals != env.globals)) = false)
    (hs : ∀ x, foldedSetIterable iter env x = pure x)
    (h : wpAny (model prog w) A (eval iter env) (CompItA prog w A E env scope cl x y ifs elt Q) E s) :
    wpAny (model prog w) A (exec (.Assign [.Name y py] (.ListComp elt [⟨.Name x px, iter, ifs, 0⟩] scope pos) spos) env) Q E s := by
  rw [exec_Assign_Name_used _ _ _ _ hsw]
  refine wpAny_bind (wpAny_standAt (wpAny_bind ?_))
  show wpAny _ A (do let _ ← comprehension (.ListComp elt [⟨.Name x px, iter, ifs, 0⟩] scope pos) scope env _ (newList []) false (eval iter env) (some (assign (.Name y py) env))) _ _ s
  refine wpAny_bind (wpAny_mono (wpAny_comprehension_free (use := some (assign (.Name y py) env)) (Q := fun _ s' => Q .next s') rfl hs hclos hkind hnames
    (wpAny_mono h (fun xv s₁ h₁ => wpAny_mono h₁ (fun it s₂ h₂ => ?_) fun _ _ e => e) fun _ _ e => e)) (fun _ s' hq => wpAny_pure (wpAny_pure hq)) fun _ _ e => e)
  obtain ⟨p, F, I, fp, wr, n, P, St, m, rfl, W, hsz, hst, hfp, hLf, hn, hq, hQ⟩ := h₂
  refine comp_block_walkC (RR := fun acc C => compPost (model prog w) A E (some (assign (.Name y py) env)) (fun _ s' => Q .next s') acc C) W hsz p F hcell hkind hx hst hfp hq ?_
  intro D C h' tk m' ys vs hD hC hDC hnC hlD hplD hlen hP hF hk
  have hLC : env.locals ≠ C := by rintro rfl; obtain ⟨o, _, _, ho, _⟩ := hn; rw [hC] at ho; cases ho
  have hLD : env.locals ≠ D := by rintro rfl; obtain ⟨o, _, _, ho, _⟩ := hn; rw [hD] at ho; cases ho
  show wpAny _ A (assign (.Name y py) env (.ref D)) _ _ _
  refine wpAny_assign_Name (wpAny_storeName_local hy (hn.at' fun o e => hk _ o hLf e) (fun h₂ hn₂ hs₂ => ?_) hp)
  refine ⟨m', hnC.sameBut hs₂ (Ne.symm hLC), fun h₃ hs₃ => ?_⟩
  exact hQ D h₃ _ ys vs hD ((hlD.extBut hs₂.extBut (Ne.symm hLD)).extBut hs₃.extBut hDC) ((hplD.extBut hs₂.extBut (Ne.symm hLD)).extBut hs₃.extBut hDC) hlen hP hF (hn₂.sameBut hs₃ hLC) fun b o hbL hbf e =>
    hs₃.extBut b o (by rintro rfl; rw [hC] at e; cases e) (hs₂.extBut b o hbL (hk b o hbf e))

/-- the iterator of xv goes through the items as -/
def Src {α : Type} (prog : Program) (w : World) (A : Around) (K : α → Value → Prop) (as : List α) (xv : Value) (s₁ : Shared) : Prop :=
  ∀ (Q : Value → Shared → Prop) (E : Value → Shared → Prop),
    (∀ I fp h₂ tk₂ St, Walks prog w A I fp [I] as.length (fun i v => ∃ a, as[i]? = some a ∧ K a v) St → St 0 h₂ → (∀ b ∈ fp, b < h₂.objs.size) → (∀ b ∈ fp, b = I ∨ xv = .ref b) → s₁.heap.get? I = none → s₁.heap.StaysIn h₂ → Q (.ref I) { s₁ with heap := h₂, toks := tk₂ }) →
    wpAny (model prog w) A (pyIter xv) Q E s₁

theorem paired_src {α : Type} {K : α → Value → Prop} {p : α → Bool} {pV : Value → Bool} {G : α → Value → Prop} : ∀ {as : List α} {vs ys : List Value}, vs.length = as.length → (∀ (j : Nat) (v : Value), vs[j]? = some v → ∃ a, as[j]? = some a ∧ K a v) → (∀ a ∈ as, ∀ v, K a v → pV v = p a) →
    Paired (fun v y => ∀ a ∈ as, K a v → G a y) (vs.filter pV) ys → Paired G (as.filter p) ys
  | [], [], ys, _, _, _, h => by
    cases h; exact .nil
  | a :: as, v :: vs, ys, hl, hK, hp, h => by
    have ha : K a v := by
      obtain ⟨b, hb, hk⟩ := hK 0 v rfl
      cases hb; exact hk
    have e := hp a (.head _) v ha
    have hl' : vs.length = as.length := by simpa using hl
    have hK' : ∀ (j : Nat) (u : Value), vs[j]? = some u → ∃ b, as[j]? = some b ∧ K b u := fun j u hj => hK (j + 1) u (by simpa using hj)
    have hp' : ∀ b ∈ as, ∀ u, K b u → pV u = p b := fun b hb => hp b (.tail _ hb)
    cases hpa : p a with
    | true =>
      rw [List.filter_cons_of_pos (by rw [e, hpa])] at h
      rw [List.filter_cons_of_pos hpa]
      cases h with
      | cons h1 h2 =>
        refine .cons (h1 a (.head _) ha) (paired_src hl' hK' hp' (Paired.mono (fun u y hu b hb => hu b (.tail _ hb)) h2))
    | false =>
      rw [List.filter_cons_of_neg (by rw [e, hpa]; decide)] at h
      rw [List.filter_cons_of_neg (by rw [hpa]; decide)]
      exact paired_src hl' hK' hp' (Paired.mono (fun u y hu b hb => hu b (.tail _ hb)) h)

section
variable {α : Type} {K : α → Value → Prop} {as : List α} {xv : Value} {s₁ : Shared} {h₀ : Heap} {L : Addr} {m : Str → Option Value} {news : List (Addr × Obj)} {scope : Scope} {cl : List (Str × Addr)} {x y : Str} {ifs : List Expr} {elt : Expr}
/-- what the tests and the element must do -/
structure Turns (prog : Program) (w : World) (A : Around) (env : Env) (scope : Scope) (cl : List (Str × Addr)) (x : Str) (ifs : List Expr) (elt : Expr) (h₀ : Heap) (L : Addr) (m : Str → Option Value) (news : List (Addr × Obj)) (K : α → Value → Prop) (as : List α) (p : α → Bool) (G : α → Value → Prop) : Prop where
  tests : ∀ C a v s₃ m₃ E', a ∈ as → K a v → m₃ x = some v → Fr h₀ L s₃.heap m → News h₀ L s₃.heap news → Fr h₀ C s₃.heap m₃ → News h₀ C s₃.heap news →
    wpAny (model prog w) A (forIn ifs true fun c r => if r = true then do let ok ← isTrue c (compEnvC scope cl C env) (eval c (compEnvC scope cl C env)); pure (ForInStep.yield ok) else pure (ForInStep.yield r))
      (fun ok s₄ => ok = p a ∧ Keeps s₃ s₄) E' s₃
  elt : ∀ C a v s₃ m₃ E', a ∈ as → K a v → p a = true → m₃ x = some v → Fr h₀ L s₃.heap m → News h₀ L s₃.heap news → Fr h₀ C s₃.heap m₃ → News h₀ C s₃.heap news →
    wpAny (model prog w) A (eval elt (compEnvC scope cl C env)) (fun y s₄ => G a y ∧ Keeps s₃ s₄) E' s₃

theorem quiet_of {p : α → Bool} {G : α → Value → Prop} {I : Addr} {h₂ : Heap} {tk₂ : Nat} (hI : s₁.heap.get? I = none) (st : s₁.heap.StaysIn h₂) (F : Fr h₀ L s₁.heap m) (N : News h₀ L s₁.heap news) (hinj : ∀ a ∈ as, ∀ b ∈ as, ∀ v, K a v → K b v → a = b)
    (T : Turns prog w A env scope cl x ifs elt h₀ L m news K as p G) :
    ∃ pV : Value → Bool, (∀ a ∈ as, ∀ v, K a v → pV v = p a) ∧
      QuietOnC prog w A env scope cl x ifs elt [I] (fun i v => ∃ a, as[i]? = some a ∧ K a v) pV (fun v y => ∀ a ∈ as, K a v → G a y) { s₁ with heap := h₂, toks := tk₂ } := by
  classical
  refine ⟨fun v => decide (∃ a ∈ as, K a v ∧ p a = true), fun a ha v hk => ?_, ?_, ?_⟩
  · cases hp : p a with
    | true => exact decide_eq_true ⟨a, ha, hk, hp⟩
    | false =>
      refine decide_eq_false ?_
      rintro ⟨b, hb, hkb, hpb⟩
      rw [hinj a ha b hb v hk hkb, hpb] at hp
      cases hp
  · rintro C i v s₃ m₃ E' hC ⟨a, hi, hk⟩ hn hm hkeep _
    have ha := List.mem_of_getElem? hi
    have hIn : ∀ b o, s₁.heap.get? b = some o → b ∉ [I] := fun b o e q => by rw [List.mem_singleton] at q; subst q; rw [hI] at e; cases e
    have st3 : s₁.heap.StaysIn s₃.heap := fun b o e => hkeep b o (hIn b o e) (st b o e)
    have hCn : ∀ b o, s₁.heap.get? b = some o → b ≠ C := fun b o e q => by subst q; exact absurd (Heap.lt_size (st b o e)) (Nat.not_lt.mpr hC)
    refine wpAny_mono (T.tests C a v s₃ m₃ E' ha hk hm (frStays F st3) (newsStays N st3) ⟨hn, fun b o e => st3 b o (F.keep b o e), ?_⟩ fun q hq => ⟨st3 _ _ (N q hq).1, hCn _ _ (N q hq).1, (N q hq).2.2⟩) (fun ok s₄ ⟨e, hh⟩ => ⟨?_, hh⟩) fun _ _ e => e
    · obtain ⟨oL, _, _, hL, _⟩ := F.ns
      exact Nat.le_trans F.above (Nat.le_of_lt (Nat.lt_of_lt_of_le (Heap.lt_size (st L oL hL)) hC))
    · rw [e]
      cases hp : p a with
      | true => exact (decide_eq_true ⟨a, ha, hk, hp⟩).symm
      | false =>
        refine (decide_eq_false ?_).symm
        rintro ⟨b, hb, hkb, hpb⟩
        rw [hinj a ha b hb v hk hkb, hpb] at hp
        cases hp
  · rintro C i v s₃ m₃ E' hC ⟨a, hi, hk⟩ hpv hn hm hkeep _
    have ha := List.mem_of_getElem? hi
    have hIn : ∀ b o, s₁.heap.get? b = some o → b ∉ [I] := fun b o e q => by rw [List.mem_singleton] at q; subst q; rw [hI] at e; cases e
    have st3 : s₁.heap.StaysIn s₃.heap := fun b o e => hkeep b o (hIn b o e) (st b o e)
    have hCn : ∀ b o, s₁.heap.get? b = some o → b ≠ C := fun b o e q => by subst q; exact absurd (Heap.lt_size (st b o e)) (Nat.not_lt.mpr hC)
    have hpa : p a = true := by
      obtain ⟨b, hb, hkb, hpb⟩ := of_decide_eq_true hpv
      rw [hinj a ha b hb v hk hkb]; exact hpb
    refine wpAny_mono (T.elt C a v s₃ m₃ E' ha hk hpa hm (frStays F st3) (newsStays N st3) ⟨hn, fun b o e => st3 b o (F.keep b o e), ?_⟩ fun q hq => ⟨st3 _ _ (N q hq).1, hCn _ _ (N q hq).1, (N q hq).2.2⟩) (fun y s₄ ⟨e, hh⟩ => ⟨fun b hb hkb => ?_, hh⟩) fun _ _ e => e
    · obtain ⟨oL, _, _, hL, _⟩ := F.ns
      exact Nat.le_trans F.above (Nat.le_of_lt (Nat.lt_of_lt_of_le (Heap.lt_size (st L oL hL)) hC))
    · rw [hinj b hb a ha v hkb hk]; exact e

theorem compIt_src {Q : Value → Shared → Prop} (hsrc : Src prog w A K as xv s₁) (F : Fr h₀ L s₁.heap m) (N : News h₀ L s₁.heap news) (hn : as.length ≤ sizeLine) (hinj : ∀ a ∈ as, ∀ b ∈ as, ∀ v, K a v → K b v → a = b)
    (p : α → Bool) (G : α → Value → Prop) (T : Turns prog w A env scope cl x ifs elt h₀ L m news K as p G)
    (hfin : ∀ D c h' tk (ys : List Value), Fr h₀ L h' m → News h₀ L h' ((D, { cls := .type "list", data := .seq ys.toArray c }) :: news) → (∀ q ∈ news, q.1 ≠ D) → Paired G (as.filter p) ys → Q (.ref D) { s₁ with heap := h', toks := tk }) :
    CompIt prog w A E env scope cl x ifs elt Q xv s₁ := by
  refine hsrc _ _ fun I fp h₂ tk₂ St W hst hfp _ hI st => ?_
  obtain ⟨pV, hpV, hq⟩ := quiet_of (tk₂ := tk₂) hI st F N hinj T
  refine ⟨pV, _, I, fp, [I], _, _, St, rfl, W, hn, hst, hfp, hq, fun D h' tk ys vs hD _ hpl hlen hP hF hk => ?_⟩
  have hIn : ∀ b o, s₁.heap.get? b = some o → b ∉ [I] := fun b o e q => by rw [List.mem_singleton] at q; subst q; rw [hI] at e; cases e
  have st3 : s₁.heap.StaysIn h' := fun b o e => hk b o (hIn b o e) (st b o e)
  obtain ⟨c, hpl⟩ := hpl
  have hDn : ∀ b o, s₁.heap.get? b = some o → b ≠ D := fun b o e q => by subst q; have := st b o e; rw [hD] at this; cases this
  have hL : L ≠ D := by obtain ⟨oL, _, _, hL, _⟩ := F.ns; exact hDn L oL hL
  refine hfin D c h' tk ys.toList (frStays F st3) ?_ (fun q hq => hDn _ _ (N q hq).1) (paired_src hlen hP hpV hF)
  intro q hq
  rcases List.mem_cons.mp hq with rfl | hq
  · refine ⟨by simpa using hpl, Ne.symm hL, ?_⟩
    cases e : h₀.get? D with
    | none => rfl
    | some o => exact absurd rfl (hDn D o (F.keep D o e))
  · exact newsStays N st3 q hq

theorem compItA_src {Q : Flow → Shared → Prop} (hsrc : Src prog w A K as xv s₁) (hL : env.locals = L) (F : Fr h₀ L s₁.heap m) (N : News h₀ L s₁.heap news) (hn : as.length ≤ sizeLine) (hinj : ∀ a ∈ as, ∀ b ∈ as, ∀ v, K a v → K b v → a = b)
    (p : α → Bool) (G : α → Value → Prop) (T : Turns prog w A env scope cl x ifs elt h₀ L m news K as p G)
    (hfin : ∀ D c h' tk (ys : List Value), Fr h₀ L h' (fun z => if z = y then some (.ref D) else m z) → News h₀ L h' ((D, { cls := .type "list", data := .seq ys.toArray c }) :: news) → (∀ q ∈ news, q.1 ≠ D) → Paired G (as.filter p) ys → Q .next { s₁ with heap := h', toks := tk }) :
    CompItA prog w A E env scope cl x y ifs elt Q xv s₁ := by
  refine hsrc _ _ fun I fp h₂ tk₂ St W hst hfp _ hI st => ?_
  obtain ⟨pV, hpV, hq⟩ := quiet_of (tk₂ := tk₂) hI st F N hinj T
  have hIn : ∀ b o, s₁.heap.get? b = some o → b ∉ [I] := fun b o e q => by rw [List.mem_singleton] at q; subst q; rw [hI] at e; cases e
  have F₂ := frStays F st
  obtain ⟨oL, _, _, hLo, _⟩ := id F.ns
  refine ⟨pV, _, I, fp, [I], _, _, St, m, rfl, W, hn, hst, hfp, by rw [hL]; exact hIn L oL hLo, by rw [hL]; exact F₂.ns, hq, fun D h' tk ys vs hD _ hpl hlen hP hF hns hk => ?_⟩
  rw [hL] at hns hk
  obtain ⟨c, hpl⟩ := hpl
  have hDn : ∀ b o, s₁.heap.get? b = some o → b ≠ D := fun b o e q => by subst q; have := st b o e; rw [hD] at this; cases this
  have hLD : L ≠ D := hDn L oL hLo
  have hLh : ∀ b o, h₀.get? b = some o → b ≠ L := fun b o e q => by subst q; exact absurd (Heap.lt_size e) (Nat.not_lt.mpr F.above)
  refine hfin D c h' tk ys.toList ⟨hns, fun b o e => hk b o (hLh b o e) (hIn b o (F.keep b o e)) (st b o (F.keep b o e)), F.above⟩ ?_ (fun q hq => hDn _ _ (N q hq).1) (paired_src hlen hP hpV hF)
  intro q hq
  rcases List.mem_cons.mp hq with rfl | hq
  · refine ⟨by simpa using hpl, Ne.symm hLD, ?_⟩
    cases e : h₀.get? D with
    | none => rfl
    | some o => exact absurd rfl (hDn D o (F.keep D o e))
  · exact ⟨hk _ _ (N q hq).2.1 (hIn _ _ (N q hq).1) (st _ _ (N q hq).1), (N q hq).2⟩
end
end
end Mine

end PartMComp
section PartMSrc
open PySem PySem.W PySem.Calls PyProof.Rows
set_option maxRecDepth 100000
namespace Mine
section
variable {prog : Program} {w : World} {A : Around} {s : Shared}

theorem walksMono {I : Addr} {fp wr : List Addr} {n n' : Nat} {P P' : Nat → Value → Prop} {St : Nat → Heap → Prop} (W : Walks prog w A I fp wr n P St) (hn : n = n') (h : ∀ i v, i < n → P i v → P' i v) : Walks prog w A I fp wr n' P' St := by
  subst hn
  exact { sub := W.sub, frame := W.frame, done := W.done, self := W.self, item := fun i s Q E hi st hQ => W.item i s Q E hi st fun v h' tk hP => hQ v h' tk (h i v hi hP) }

/-- a list's items, each told by K -/
theorem srcList {α : Type} {K : α → Value → Prop} {as : List α} {ax : Addr} {items : Array Value} (hh : A.handled = none) (hl : s.heap.IsList ax items) (hlen : items.size = as.length) (hK : ∀ (i : Nat) (v : Value), items[i]? = some v → ∃ a, as[i]? = some a ∧ K a v) :
    Src prog w A K as (.ref ax) s := by
  intro Q E h
  have hlt : ax < s.heap.objs.size := by obtain ⟨_, e, _⟩ := hl; exact Heap.lt_size e
  refine wpAny_pyIter_list hl (h s.heap.objs.size [s.heap.objs.size, ax] _ s.toks _ (walksMono (Walks.list hh s.heap.objs.size ax (Nat.ne_of_lt hlt) items) hlen fun i v _ e => hK i v e) ⟨⟨_, Heap.get?_push_size _ rfl, rfl, rfl⟩, hl.push _⟩ (fun b hb => ?_) (fun b hb => ?_) ?_ fun b o e => Heap.get?_push_of_some _ e)
  · rw [Heap.size_push]
    rcases List.mem_cons.mp hb with rfl | hb
    · exact Nat.lt_succ_self _
    · rw [List.mem_singleton.mp hb]; exact Nat.lt_succ_of_lt hlt
  · rcases List.mem_cons.mp hb with rfl | hb
    · exact .inl rfl
    · rw [List.mem_singleton.mp hb]; exact .inr rfl
  · cases e : s.heap.get? s.heap.objs.size with
    | none => rfl
    | some o => exact absurd (Heap.lt_size e) (Nat.lt_irrefl _)
theorem freshAt (s : Shared) : s.heap.get? s.heap.objs.size = none := by
  cases e : s.heap.get? s.heap.objs.size with
  | none => rfl
  | some o => exact absurd (Heap.lt_size e) (Nat.lt_irrefl _)
def IsI (k : Int) (v : Value) : Prop := ∃ t, v = .int k t
def IsT (l : List Nat) (v : Value) : Prop := ∃ t, v = .str (S l) t
theorem IsI.inj {a b : Int} {v : Value} (h : IsI a v) (h' : IsI b v) : a = b := by
  obtain ⟨t, rfl⟩ := h; obtain ⟨u, e⟩ := h'; cases e; rfl
theorem IsT.inj {a b : List Nat} {v : Value} (h : IsT a v) (h' : IsT b v) : a = b := by
  obtain ⟨t, rfl⟩ := h; obtain ⟨u, e⟩ := h'; exact S_inj (by injection e)
/-- a range's ints -/
theorem srcRange {r : Addr} {a b : Int} {t u v : Tok} {n : Nat} {as : List Int} (hh : A.handled = none) (hr : IsRange s.heap r a b 1 t u v) (hsm : Builtin.Range.small a b 1 = true) (hn : Builtin.Range.rangeSize a b 1 = ((n : Nat) : Int)) (has : as = (List.range n).map fun i => a + ((i : Nat) : Int)) :
    Src prog w A IsI as (.ref r) s := by
  subst has
  intro Q E h
  refine wpAny_pyIter_range hr hsm (h s.heap.objs.size [s.heap.objs.size] _ s.toks _ (walksMono (LCg.range_walks hh a n) (by simp) fun i v hi hP => ?_) (by show IsRangeIter _ _ _ _ _; rw [hn]; simpa using Heap.get?_push_size _ rfl) (fun b hb => ?_) (fun b hb => .inl (List.mem_singleton.mp hb)) (freshAt s) fun b o e => Heap.get?_push_of_some _ e)
  · exact ⟨a + (i : Int), by simp [hi], hP⟩
  · rw [List.mem_singleton.mp hb, Heap.size_push]; exact Nat.lt_succ_self _
/-- a bytes' ints -/
theorem srcBytes {l : List Nat} {t : Tok} (hl : ∀ d ∈ l, d < 16) (hh : A.handled = none) : Src prog w A IsI (l.map fun d => ((65 + d : Nat) : Int)) (.bytes (apB l) t) s := by
  intro Q E h
  refine KBw.pyIter_bytes (h s.heap.objs.size [s.heap.objs.size] _ s.toks _ (walksMono (KBw.walks hh s.heap.objs.size (apB l) t) (by rw [apB_size, List.length_map]) fun i v hi hP => ?_) ⟨_, Heap.get?_push_size _ rfl, rfl, rfl⟩ (fun b hb => ?_) (fun b hb => .inl (List.mem_singleton.mp hb)) (freshAt s) fun b o e => Heap.get?_push_of_some _ e)
  · obtain ⟨c, u, hc, rfl⟩ := hP
    rw [apB_size] at hi
    refine ⟨((65 + l[i] : Nat) : Int), by simp [hi], u, ?_⟩
    have : c = UInt8.ofNat (65 + l[i]) := by
      simp only [apB, List.getElem?_toArray, List.getElem?_map, List.getElem?_eq_getElem hi, Option.map_some, Option.some.injEq] at hc
      exact hc.symm
    subst this
    have hd := hl l[i] (List.getElem_mem hi)
    congr 2
    simp [UInt8.toNat_ofNat']
    omega
  · rw [List.mem_singleton.mp hb, Heap.size_push]; exact Nat.lt_succ_self _
/-- a text's signs -/
theorem srcStr {l : List Nat} {t : Tok} (hh : A.handled = none) : Src prog w A IsT (l.map fun c => [c]) (.str (S l) t) s := by
  intro Q E h
  refine wpAny_pyIter_str fun o St W hst => h s.heap.objs.size [s.heap.objs.size] _ s.toks St (walksMono (W A hh) (by simp [S]) fun i v hi hP => ?_) hst (fun b hb => ?_) (fun b hb => .inl (List.mem_singleton.mp hb)) (freshAt s) fun b o e => Heap.get?_push_of_some _ e
  · obtain ⟨c, u, hc, rfl⟩ := hP
    refine ⟨[c], ?_, u, rfl⟩
    have hc' : l[i]? = some c := by rw [← Array.getElem?_toList, S_cps] at hc; exact hc
    simp [hc']
  · rw [List.mem_singleton.mp hb, Heap.size_push]; exact Nat.lt_succ_self _
theorem tests_nil {env : Env} {C : Addr} {scope : Scope} {cl : List (Str × Addr)} {s₃ : Shared} {E' : Value → Shared → Prop} {b : Bool} (hb : true = b) :
    wpAny (model prog w) A (forIn ([] : List Expr) true fun c r => if r = true then do let ok ← isTrue c (compEnvC scope cl C env) (eval c (compEnvC scope cl C env)); pure (ForInStep.yield ok) else pure (ForInStep.yield r))
      (fun ok s₄ => ok = b ∧ Keeps s₃ s₄) E' s₃ := by
  rw [List.forIn_nil]
  exact wpAny_pure ⟨hb, s₃.heap, s₃.toks, rfl, fun _ _ e => e⟩
theorem keeps_of {s₃ : Shared} {h' : Heap} {tk : Nat} (st : s₃.heap.StaysIn h') : Keeps s₃ { s₃ with heap := h', toks := tk } := ⟨h', tk, rfl, st⟩
end
end Mine

end PartMSrc
section PartMName
open PySem PySem.W PySem.Calls PyProof.Rows
set_option maxRecDepth 100000
namespace Mine
section
variable {M : Model} {A : Around} {E : Value → Shared → Prop} {s : Shared} {K : Frag} {h₀ : Heap} {L C : Addr} {m mg mb : Str → Option Value} {scope : Scope} {cl : List (Str × Addr)} {env : Env} {p : Program} {loose : List Str}
  {x : Str} {pos : Pos} {v : Value} {Q : Value → Shared → Prop} {news : List (Addr × Obj)} {c : Addr} {o : Obj}
/-- a comprehension's own name -/
theorem nmL (F : Fr h₀ C s.heap m) (hv : m x = some v) (h : Q v s)
    (hk : (compEnvC scope cl C env).scope.kind = .function := by rfl) (hx : (compEnvC scope cl C env).kindOf x = some .local := by rfl) (hd : (x == ("__debug__" : Str)) = false := by decide) :
    wpAny M A (eval (.Name x pos) (compEnvC scope cl C env)) Q E s := wpAny_Name (wpAny_loadName_local hk hx F.ns hv h) hd
/-- a name of the text -/
theorem nmK (F : Fr h₀ C s.heap m) (X : K.In h₀) (T : TopRead p loose mg mb h₀) (e : nsIn K mainGlobals x = some (some v)) (h : Q v s)
    (hg : env.globals = mainGlobals := by rfl) (hk : (compEnvC scope cl C env).scope.kind = .function := by rfl) (hx : (compEnvC scope cl C env).kindOf x = some .globalImplicit := by rfl) (hd : (x == ("__debug__" : Str)) = false := by decide) :
    wpAny M A (eval (.Name x pos) (compEnvC scope cl C env)) Q E s :=
  Name_function_global hk hx (loadGlobal_global (env := compEnvC scope cl C env) (by show s.heap.Ns env.globals mg; rw [hg]; exact T.g.keeps F.keep) (mg_of X T.g e) h) hd
/-- a built-in's name -/
theorem nmB (F : Fr h₀ C s.heap m) (X : K.In h₀) (T : TopRead p loose mg mb h₀) (e : nsIn K mainGlobals x = some none) (hv : bootBuiltins x = some v) (hn : x ≠ "__name__") (h : Q v s)
    (hg : env.globals = mainGlobals := by rfl) (hb : env.builtins = builtinsNs := by rfl) (hk : (compEnvC scope cl C env).scope.kind = .function := by rfl) (hx : (compEnvC scope cl C env).kindOf x = some .globalImplicit := by rfl) (hd : (x == ("__debug__" : Str)) = false := by decide) :
    wpAny M A (eval (.Name x pos) (compEnvC scope cl C env)) Q E s :=
  Name_function_global hk hx (loadGlobal_builtin (env := compEnvC scope cl C env) (by show s.heap.Ns env.globals mg; rw [hg]; exact T.g.keeps F.keep) (mg_none_of X T.g e) (by show s.heap.Ns env.builtins mb; rw [hb]; exact T.b.keeps F.keep) ((T.builtins x hn).trans hv) h) hd
/-- a name of the function around, kept in a cell -/
theorem nmC (N : News h₀ C s.heap news) (hc : cl.lookup x = some c) (hm : (c, o) ∈ news) (hd : o.data = .cell (some v)) (h : Q v s)
    (hk : (compEnvC scope cl C env).scope.kind = .function := by rfl) (hx : (compEnvC scope cl C env).kindOf x = some .cell := by rfl) (hb : (x == ("__debug__" : Str)) = false := by decide) :
    wpAny M A (eval (.Name x pos) (compEnvC scope cl C env)) Q E s := wpAny_Name (wpAny_loadName_cell hk hx hc ⟨o, N.get hm, hd⟩ h) hb
end
section
variable {prog : Program} {w : World} {A : Around} {E : Value → Shared → Prop} {s : Shared} {h₀ : Heap} {L : Addr} {m : Str → Option Value} {news : List (Addr × Obj)} {Q : Value → Shared → Prop} {t : Tok}
/-- texts laid as values -/
def TxtsAre : List Value → List (List Nat) → Prop
  | [], [] => True
  | v :: vs, l :: ls => IsT l v ∧ TxtsAre vs ls
  | _, _ => False
theorem TxtsAre.strs : ∀ {vs : List Value} {ls : List (List Nat)}, TxtsAre vs ls → StrsAre vs (ls.map S)
  | [], [], _ => .nil
  | v :: vs, l :: ls, h => by
    obtain ⟨⟨t, rfl⟩, h⟩ := h
    exact .cons _ _ h.strs
  | [], _ :: _, h => h.elim
  | _ :: _, [], h => h.elim
theorem TxtsAre.app : ∀ {vs ws : List Value} {ls ks : List (List Nat)}, TxtsAre vs ls → TxtsAre ws ks → TxtsAre (vs ++ ws) (ls ++ ks)
  | [], _, [], _, _, h => h
  | _ :: _, _, _ :: _, _, ⟨a, b⟩, h => ⟨a, b.app h⟩
  | [], _, _ :: _, _, h, _ => h.elim
  | _ :: _, _, [], _, h, _ => h.elim
theorem TxtsAre.ofPaired {α : Type} {f : α → List Nat} : ∀ {as : List α} {vs : List Value}, Paired (fun a v => IsT (f a) v) as vs → TxtsAre vs (as.map f)
  | [], _, h => by cases h; trivial
  | a :: as, _, h => by
    cases h with
    | cons h1 h2 => exact ⟨h1, TxtsAre.ofPaired h2⟩
theorem TxtsAre.len : ∀ {vs : List Value} {ls : List (List Nat)}, TxtsAre vs ls → vs.length = ls.length
  | [], [], _ => rfl
  | _ :: _, _ :: _, ⟨_, h⟩ => by simp [h.len]
  | [], _ :: _, h => h.elim
  | _ :: _, [], h => h.elim
theorem TxtsAre.at : ∀ {vs : List Value} {ls : List (List Nat)}, TxtsAre vs ls → ∀ (i : Nat) (v : Value), vs[i]? = some v → ∃ l, ls[i]? = some l ∧ IsT l v
  | [], _, _, i, v, e => by simp at e
  | v₀ :: _, l :: _, ⟨a, _⟩, 0, v, e => by cases e; exact ⟨l, rfl, a⟩
  | _ :: _, _ :: _, ⟨_, h⟩, i + 1, v, e => h.at i v (by simpa using e)
  | _ :: _, [], h, _, _, _ => h.elim
/-- joined with dots -/
def joinD : List (List Nat) → List Nat
  | [] => []
  | [x] => x
  | x :: r => x ++ 46 :: joinD r
theorem joinD_cons (x : List Nat) : ∀ {r : List (List Nat)}, r ≠ [] → joinD (x :: r) = x ++ 46 :: joinD r
  | [], h => absurd rfl h
  | _ :: _, _ => rfl
theorem joinD_flat (x : List Nat) : ∀ ls : List (List Nat), joinD (x :: ls) = x ++ ls.flatMap (fun l => 46 :: l)
  | [] => by simp [joinD]
  | y :: r => by rw [joinD_cons _ (by simp), joinD_flat y r]; simp
theorem paired_eq {α β : Type} {f : α → β} : ∀ {as : List α} {ys : List β}, Paired (fun a y => y = f a) as ys → ys = as.map f
  | [], _, h => by cases h; rfl
  | _ :: _, _, h => by
    cases h with
    | cons h1 h2 => rw [h1, paired_eq h2]; rfl
theorem fmodN (n : Nat) (k : Nat) : (n : Int).fmod (k : Int) = ((n % k : Nat) : Int) := by rw [Int.fmod_eq_emod_of_nonneg _ (by omega)]; rfl
theorem beqN (a b : Nat) : (((a : Nat) : Int) == ((b : Nat) : Int)) = (a == b) := by
  by_cases h : a = b
  · subst h; simp
  · have : ¬ ((a : Int) = (b : Int)) := by omega
    rw [beq_eq_false_iff_ne.mpr h, beq_eq_false_iff_ne.mpr this]
theorem sum_ones {α : Type} (f : α → Nat) : ∀ ds : List α, ((ds.map fun d => [f d]).map List.length).sum = ds.length
  | [] => rfl
  | _ :: r => by simp only [List.map_cons, List.sum_cons, sum_ones f r, List.length_cons, List.length_nil]; omega
theorem toNat_sign (ds : List Nat) : (ds.map fun d => ((65 + d : Nat) : Int)).map (fun a => [a.toNat]) = ds.map fun d => [65 + d] := by
  rw [List.map_map]
  refine List.map_congr_left fun d _ => ?_
  show [((65 + d : Nat) : Int).toNat] = _
  rw [Int.toNat_natCast]
theorem join_S : ∀ ls : List (List Nat), Str.join (S [46]) (ls.map S) = S (joinD ls)
  | [] => rfl
  | [x] => rfl
  | x :: y :: r => by
    show S x ++ S [46] ++ Str.join (S [46]) ((y :: r).map S) = _
    rw [join_S (y :: r), S_app, S_app]
    simp [joinD]
theorem r_join {D : Addr} {items : Array Value} {ls : List (List Nat)} (hl : s.heap.IsList D items) (hi : TxtsAre items.toList ls) (hz : (ls.map List.length).sum + ls.length ≤ 1000000)
    (h : ∀ t' tk', Q (.str (S (joinD ls)) t') { s with toks := tk' }) : wpAny (model prog w) A (call (.builtin "str.join") [.str (S [46]) t, .ref D]) Q E s := by
  refine join_list hl hi.strs ?_ fun t' tk' => ?_
  · have e : (ls.map S).map (·.length) = ls.map List.length := by simp [S_len, Function.comp_def]
    rw [e, S_len]
    simp
    omega
  · have e : Txt.join (S [46]) (ls.map S) = S (joinD ls) := by
      rw [← join_S]; exact StrLaws.glued_eq_join _ _
    rw [e]; exact h t' tk'
end
end Mine

end PartMName
section PartMMore
open PySem PySem.W PySem.Calls PyProof.Rows
set_option maxRecDepth 100000
namespace Mine
section
variable {prog : Program} {w : World} {A : Around} {s : Shared} {E : Value → Shared → Prop} {Q : Value → Shared → Prop} {l k : List Nat} {t u : Tok} {h₀ : Heap} {L : Addr} {m : Str → Option Value} {news : List (Addr × Obj)}
theorem r_len (hz : l.length ≤ 1000000) (h : ∀ t' tk', Q (.int l.length t') { s with toks := tk' }) : wpAny (model prog w) A (call (.builtin "len") [.str (S l) t]) Q E s :=
  PyProof.Rows.len_str (by rw [S_len]; omega) (by rw [S_len]; exact h _ _)
/-- an item of a list in bounds -/
theorem r_litem {value slice : Expr} {D : Addr} {vs : List Value} {i : Int} {v : Value} {c : Nat} (hl : s.heap.get? D = some { cls := .type "list", data := .seq vs.toArray c }) (h0 : 0 ≤ i) (hhi : i < 2 ^ 63) (hx : vs[i.toNat]? = some v) (h : Q v s)
    (hs : subscripted slice false (.ref D) (.int i u) = operate [.ref D, .int i u] (getItem (.ref D) (.int i u)) := by with_unfolding_all rfl) :
    wpAny (model prog w) A (subscriptTail value slice (.ref D) (.int i u)) Q E s :=
  have hL : s.heap.IsList D vs.toArray := ⟨_, hl, rfl, _, rfl⟩
  tail_any hL.typeIs slot_list_getitem.lookup (wpAny_getItem_list hL h0 hhi (by simpa using hx) h) hs
theorem tests_one {env : Env} {C : Addr} {scope : Scope} {cl : List (Str × Addr)} {c : Expr} {Q : Bool → Shared → Prop}
    (h : wpAny (model prog w) A (isTrue c (compEnvC scope cl C env) (eval c (compEnvC scope cl C env))) Q E s) :
    wpAny (model prog w) A (forIn [c] true fun c r => if r = true then do let ok ← isTrue c (compEnvC scope cl C env) (eval c (compEnvC scope cl C env)); pure (ForInStep.yield ok) else pure (ForInStep.yield r)) Q E s :=
  wpAny_tests_one h
theorem newsDrop3 {h : Heap} {a b c d : Addr × Obj} {r : List (Addr × Obj)} (N : News h₀ L h (a :: b :: c :: d :: r)) : News h₀ L h (a :: r) := fun q hq => by
  rcases List.mem_cons.mp hq with rfl | hq
  · exact N _ (.head _)
  · exact N q (.tail _ (.tail _ (.tail _ (.tail _ hq))))
theorem newsDrop2 {h : Heap} {a b c : Addr × Obj} {r : List (Addr × Obj)} (N : News h₀ L h (a :: b :: c :: r)) : News h₀ L h (a :: r) := fun q hq => by
  rcases List.mem_cons.mp hq with rfl | hq
  · exact N _ (.head _)
  · exact N q (.tail _ (.tail _ (.tail _ hq)))
theorem newsDrop1 {h : Heap} {a b : Addr × Obj} {r : List (Addr × Obj)} (N : News h₀ L h (a :: b :: r)) : News h₀ L h (a :: r) := fun q hq => by
  rcases List.mem_cons.mp hq with rfl | hq
  · exact N _ (.head _)
  · exact N q (.tail _ (.tail _ hq))
theorem newsTail {h : Heap} {a : Addr × Obj} {r : List (Addr × Obj)} (N : News h₀ L h (a :: r)) : News h₀ L h r := fun q hq => N q (.tail _ hq)
theorem offTail {D : Addr} {a : Addr × Obj} {r : List (Addr × Obj)} (h : ∀ q ∈ a :: r, q.1 ≠ D) : ∀ q ∈ r, q.1 ≠ D := fun q hq => h q (.tail _ hq)
theorem staysTrans {h h' h'' : Heap} (a : h.StaysIn h') (b : h'.StaysIn h'') : h.StaysIn h'' := fun x o e => b x o (a x o e)
theorem srcTxts {ax : Addr} {items : Array Value} {ls : List (List Nat)} {c : Nat} (hh : A.handled = none) (hl : s.heap.get? ax = some { cls := .type "list", data := .seq items c }) (hT : TxtsAre items.toList ls) : Src prog w A IsT ls (.ref ax) s :=
  srcList hh ⟨_, hl, rfl, _, rfl⟩ (by rw [← Array.length_toList]; exact hT.len) fun i v e => hT.at i v (by rw [Array.getElem?_toList]; exact e)
theorem r_neInts {a b : Addr} {vs us : List Value} {ns ms : List Int} {c d : Nat} (hl : s.heap.get? a = some { cls := .type "list", data := .seq vs.toArray c }) (hi : IntsAre vs ns) (hl' : s.heap.get? b = some { cls := .type "list", data := .seq us.toArray d }) (hi' : IntsAre us ms) (hu : A.units + 64 < cLine)
    (h : Q (.bool (!decide (ns = ms))) s) : wpAny (model prog w) A (compareOp .NotEq (.ref a) (.ref b)) Q E s := ne_intsK ⟨_, hl, rfl, _, rfl⟩ hi ⟨_, hl', rfl, _, rfl⟩ hi' hu h
theorem r_eqInts {a b : Addr} {vs us : List Value} {ns ms : List Int} {c d : Nat} (hl : s.heap.get? a = some { cls := .type "list", data := .seq vs.toArray c }) (hi : IntsAre vs ns) (hl' : s.heap.get? b = some { cls := .type "list", data := .seq us.toArray d }) (hi' : IntsAre us ms) (hu : A.units + 64 < cLine)
    (h : Q (.bool (decide (ns = ms))) s) : wpAny (model prog w) A (compareOp .Eq (.ref a) (.ref b)) Q E s := eq_intsK ⟨_, hl, rfl, _, rfl⟩ hi ⟨_, hl', rfl, _, rfl⟩ hi' hu h
theorem readsTxts {h : Heap} : ∀ {vs : List Value} {ls : List (List Nat)}, TxtsAre vs ls → ReadsAll h vs (ls.map fun l => PyData.str (S l)) []
  | [], [], _ => .nil
  | _ :: _, l :: _, ⟨⟨t, e⟩, r⟩ => by
    subst e
    have := ReadsAll.cons (Reads.str (h := h) (S l) t) (readsTxts (h := h) r)
    simpa using this
  | [], _ :: _, h => h.elim
  | _ :: _, [], h => h.elim
def Asc (ls : List (List Nat)) : Prop := ∀ l ∈ ls, ∀ c ∈ l, c < 128
theorem strOk_S {l : List Nat} (h : ∀ c ∈ l, c < 128) : PyData.strOk (S l) = true := by
  unfold PyData.strOk
  rw [Array.all_eq_true_iff_forall_mem]
  intro c hc
  have := h c (by simpa [S] using hc)
  simp
  omega
theorem canLayTxts : ∀ {ls : List (List Nat)}, Asc ls → PyData.canLayAll0 (ls.map fun l => PyData.str (S l)) = true
  | [], _ => by simp [PyData.canLayAll0]
  | l :: r, h => by simp [PyData.canLayAll0, PyData.canLay0, strOk_S (h l (.head _)), canLayTxts (ls := r) fun k hk => h k (.tail _ hk)]
theorem depthTxts : ∀ ls : List (List Nat), PyData.depthAll (ls.map fun l => PyData.str (S l)) ≤ 1
  | [] => by simp [PyData.depthAll]
  | _ :: r => by
    have := depthTxts r
    simp only [List.map_cons, PyData.depthAll, PyData.depth]
    omega
theorem shapedTxts {ls : List (List Nat)} (hA : Asc ls) : SeqAt.shaped (.list (ls.map fun l => PyData.str (S l))) = true := by
  have h1 := depthTxts ls
  have h2 : PyData.depth (.list (ls.map fun l => PyData.str (S l))) ≤ 64 := by simp only [PyData.depth]; omega
  show (PyData.canLay0 (.list (ls.map fun l => PyData.str (S l))) && decide (PyData.depth (.list (ls.map fun l => PyData.str (S l))) ≤ 64)) = true
  rw [Bool.and_eq_true]
  exact ⟨by simp only [PyData.canLay0]; exact canLayTxts hA, decide_eq_true h2⟩
theorem noMixTxts : ∀ ls ks : List (List Nat), SeqAt.noMixAll (ls.map fun l => PyData.str (S l)) (ks.map fun l => PyData.str (S l)) = true
  | [], [] => by simp [SeqAt.noMixAll]
  | [], _ :: _ => by simp [SeqAt.noMixAll]
  | _ :: _, [] => by simp [SeqAt.noMixAll]
  | _ :: r, _ :: q => by simp [SeqAt.noMixAll, SeqAt.noMix, noMixTxts r q]
theorem sameTxts : ∀ ls ks : List (List Nat), PySem.Spec.sameAll (ls.map fun l => PyData.str (S l)) (ks.map fun l => PyData.str (S l)) = decide (ls = ks)
  | [], [] => by simp [PySem.Spec.sameAll]
  | [], _ :: _ => by simp [PySem.Spec.sameAll]
  | _ :: _, [] => by simp [PySem.Spec.sameAll]
  | n :: r, k :: q => by
    simp only [List.map_cons, PySem.Spec.sameAll, PySem.Spec.same, sameTxts r q, S_beq]
    by_cases h : n = k <;> simp [h]
theorem readsTxtList {h : Heap} {a : Addr} {vs : List Value} {ls : List (List Nat)} {c : Nat} (hl : h.get? a = some { cls := .type "list", data := .seq vs.toArray c }) (hi : TxtsAre vs ls) : Reads h (.ref a) (.list (ls.map fun l => PyData.str (S l))) [a] :=
  Reads.list hl rfl rfl (by simpa using readsTxts hi)
theorem r_eqTxts {a b : Addr} {vs us : List Value} {ls ks : List (List Nat)} {c d : Nat} (hl : s.heap.get? a = some { cls := .type "list", data := .seq vs.toArray c }) (hi : TxtsAre vs ls) (hl' : s.heap.get? b = some { cls := .type "list", data := .seq us.toArray d }) (hi' : TxtsAre us ks) (ha : Asc ls) (ha' : Asc ks) (hu : A.units + 64 < cLine)
    (h : Q (.bool (decide (ls = ks))) s) : wpAny (model prog w) A (compareOp .Eq (.ref a) (.ref b)) Q E s :=
  eq_dataH_same (readsTxtList hl hi) (readsTxtList hl' hi') (shapedTxts ha) (shapedTxts ha') hu (by simp only [SeqAt.noMix]; exact noMixTxts ls ks) (by simp only [PySem.Spec.same]; rw [sameTxts]; exact h)
theorem r_neTxts {a b : Addr} {vs us : List Value} {ls ks : List (List Nat)} {c d : Nat} (hl : s.heap.get? a = some { cls := .type "list", data := .seq vs.toArray c }) (hi : TxtsAre vs ls) (hl' : s.heap.get? b = some { cls := .type "list", data := .seq us.toArray d }) (hi' : TxtsAre us ks) (ha : Asc ls) (ha' : Asc ks) (hu : A.units + 64 < cLine)
    (h : Q (.bool (!decide (ls = ks))) s) : wpAny (model prog w) A (compareOp .NotEq (.ref a) (.ref b)) Q E s :=
  ne_dataH_same (readsTxtList hl hi) (readsTxtList hl' hi') (shapedTxts ha) (shapedTxts ha') hu (by simp only [SeqAt.noMix]; exact noMixTxts ls ks) (by simp only [PySem.Spec.same]; rw [sameTxts]; exact h)
def isTxt (l : List Nat) : Value → Bool
  | .str x _ => x.cps.toList == l
  | _ => false
theorem any_isTxt (l : List Nat) : ∀ {vs : List Value} {ls : List (List Nat)}, TxtsAre vs ls → vs.any (isTxt l) = ls.contains l
  | [], [], _ => rfl
  | _ :: _, k :: _, ⟨⟨t, e⟩, r⟩ => by
    subst e
    rw [List.any_cons, any_isTxt l r, List.contains_cons]
    congr 1
    show (k == l) = _
    exact Bool.eq_iff_iff.mpr ⟨fun h => by rw [beq_iff_eq] at h ⊢; exact h.symm, fun h => by rw [beq_iff_eq] at h ⊢; exact h.symm⟩
  | [], _ :: _, h => h.elim
  | _ :: _, [], h => h.elim
theorem r_inTxts {D : Addr} {vs : List Value} {ls : List (List Nat)} {c : Nat} (hl : s.heap.get? D = some { cls := .type "list", data := .seq vs.toArray c }) (hi : TxtsAre vs ls) (h : Q (.bool (ls.contains l)) s) : wpAny (model prog w) A (compareOp .In (.str (S l) t) (.ref D)) Q E s := by
  refine SeqInW.in_listW (isTxt l) (fun y hy => ?_) ⟨_, hl, rfl, _, rfl⟩ (by rw [← Array.any_toList]; show Q (.bool (vs.any (isTxt l))) s; rw [any_isTxt l hi]; exact h)
  have hy' : y ∈ vs := by simpa using hy
  obtain ⟨i, hi', e⟩ := List.getElem_of_mem hy'
  obtain ⟨k, _, tk, rfl⟩ := hi.at i y (by rw [List.getElem?_eq_getElem hi', e])
  exact SeqRoads2.EqGives.str (S k) (S l) tk t
theorem eqG_bool (a b : Bool) : MeetsSeq.EqGives (.bool a) (.bool b) (a == b) := by
  intro prog w A E s Q h
  unfold eqBool
  refine wpAny_holding ?_
  by_cases hab : (Value.bool a == Value.bool b) = true
  · rw [if_pos hab]
    have e : a = b := by have := eq_of_beq hab; injection this
    subst e
    exact wpAny_bind (wpAny_rule (wpAny_pure (by simpa using h)))
  · rw [if_neg hab]
    have q : wpAny (model prog w) A (compareOp .Eq (.bool a) (.bool b)) (fun v s' => wpAny (model prog w) A (truthOfDropped v) Q E s') E s := PyProof.Rows.eq_bool (wpAny_truthy_bool h)
    exact wpAny_bind q
def isYes : Value → Bool
  | .bool b => b == true
  | _ => false
theorem any_yes : ∀ bs : List Bool, (bs.map Value.bool).any isYes = bs.contains true
  | [] => rfl
  | b :: r => by
    rw [List.map_cons, List.any_cons, any_yes r, List.contains_cons]
    cases b <;> rfl
theorem r_inBool {D : Addr} {bs : List Bool} {c : Nat} (hl : s.heap.get? D = some { cls := .type "list", data := .seq (bs.map Value.bool).toArray c }) (h : Q (.bool (bs.contains true)) s) : wpAny (model prog w) A (compareOp .In (.bool true) (.ref D)) Q E s := by
  refine SeqInW.in_listW isYes (fun y hy => ?_) ⟨_, hl, rfl, _, rfl⟩ ?_
  · have hy' : y ∈ bs.map Value.bool := by simpa using hy
    obtain ⟨b, _, rfl⟩ := List.mem_map.mp hy'
    exact eqG_bool b true
  · have e : (bs.map Value.bool).toArray.any isYes = bs.contains true := by
      rw [← Array.any_toList]
      exact any_yes bs
    rw [e]; exact h
end
end Mine

end PartMMore
section PartMFor
open PySem PySem.W PySem.Calls PyProof.Rows
set_option maxRecDepth 100000
namespace Mine
section
variable {prog : Program} {w : World} {A : Around} {E : Value → Shared → Prop} {env : Env} {s : Shared} {Q : Flow → Shared → Prop}
def ForIt (prog : Program) (w : World) (A : Around) (h₀ : Heap) (E : Value → Shared → Prop) (env : Env) (x : Str) (body : List Stmt) (Q : Flow → Shared → Prop) (xv : Value) (s₁ : Shared) : Prop :=
  wpAny (model prog w) A (pyIter xv) (fun it s₂ => LoopAtV prog w A h₀ env x body Q E it s₂) E s₁
theorem forE {iter : Expr} {x : Str} {px pos : Pos} {body : List Stmt} (h₀ : Heap) (hx : env.kindOf x = some .local)
    (hp : (env.scope.kind == .class || (env.scope.kind == .module && env.locals != env.globals)) = false) (hs : ∀ x, foldedSetIterable iter env x = pure x) (hE : PassesOwn (model prog w) A env E)
    (h : wpAny (model prog w) A (eval iter env) (ForIt prog w A h₀ E env x body Q) E s) : wpAny (model prog w) A (exec (.For (.Name x px) iter body [] pos) env) Q E s := For_invV h₀ hx hp h hs hE
/-- a turn's end: the ledger is still there -/
def ForStep (h₀ : Heap) (L : Addr) (J : (Str → Option Value) → Prop) (need : List (Addr × Obj)) (s₁ : Shared) (Q : Flow → Shared → Prop) (f : Flow) (s₂ : Shared) : Prop :=
  match f with
  | .ret v => Q (.ret v) s₂
  | .brk => Q .next s₂
  | _ => ∃ h' tk m' news', s₂ = { s₁ with heap := h', toks := tk } ∧ Fr h₀ L h' m' ∧ News h₀ L h' news' ∧ (∀ p ∈ need, p ∈ news') ∧ J m'

theorem forIt_src {α : Type} {K : α → Value → Prop} {as : List α} {xv : Value} {s₁ : Shared} {h₀ : Heap} {m : Str → Option Value} {news : List (Addr × Obj)} {x : Str} {body : List Stmt}
    (hsrc : Src prog w A K as xv s₁) (hxL : ∀ b, xv = .ref b → b ≠ env.locals) (F : Fr h₀ env.locals s₁.heap m) (N : News h₀ env.locals s₁.heap news)
    (J : Nat → (Str → Option Value) → Prop) (hJ : J 0 m)
    (turn : ∀ (i : Nat) a v m₁ h tk own, as[i]? = some a → K a v → J i m₁ → Fr h₀ env.locals h (fun y => if y = x then some v else m₁ y) → News h₀ env.locals h (own ++ news) →
      wpAny (model prog w) A (execs body env) (ForStep h₀ env.locals (J (i + 1)) (own ++ news) { s₁ with heap := h, toks := tk } Q) E { s₁ with heap := h, toks := tk })
    (done : ∀ m₁ h tk, J as.length m₁ → Fr h₀ env.locals h m₁ → News h₀ env.locals h news → Q .next { s₁ with heap := h, toks := tk }) :
    ForIt prog w A h₀ E env x body Q xv s₁ := by
  refine hsrc _ _ fun I fp h₂ tk₂ St W hst hfp hsub hI st => ?_
  obtain ⟨oL, _, _, hLo, _⟩ := id F.ns
  have hIL : I ≠ env.locals := by rintro rfl; rw [hI] at hLo; cases hLo
  refine ⟨I, fp, [I], as.length, _, St, m, news, fun i m₁ news₁ => news₁ = news ∧ J i m₁, rfl, W, ?_, ?_, ?_, hst, frStays F st, newsStays N st, ⟨rfl, hJ⟩, ?_, ?_⟩
  · intro hm
    rcases hsub _ hm with e | e
    · exact hIL e.symm
    · exact hxL _ e rfl
  · intro b hb
    rw [List.mem_singleton.mp hb]
    cases e : h₀.get? I with
    | none => rfl
    | some o => rw [F.keep I o e] at hI; cases hI
  · intro p hp hm
    have := (N p hp).1
    rw [List.mem_singleton.mp hm, hI] at this; cases this
  · rintro i v m₁ news₁ s₃ own ⟨hh, tk, rfl⟩ hin ⟨a, ha, hk⟩ ⟨rfl, hJ'⟩ hoff _ _ _ _ F₁ N₁
    refine wpAny_mono (turn i a v m₁ hh tk own ha hk hJ' F₁ N₁) (fun f s₄ q => ?_) fun _ _ e => e
    cases f with
    | ret v => exact q
    | brk => exact q
    | next =>
      obtain ⟨h', tk', m', news', e, F', N', hn, hj⟩ := q
      exact ⟨rfl, h', tk', m', news₁, e, F', fun p hp => N' p (hn p hp), hoff, rfl, hj⟩
    | cont =>
      obtain ⟨h', tk', m', news', e, F', N', hn, hj⟩ := q
      exact ⟨rfl, h', tk', m', news₁, e, F', fun p hp => N' p (hn p hp), hoff, rfl, hj⟩
  · rintro h' tk m' news' F' N' _ ⟨rfl, hJ'⟩
    exact done m' h' tk hJ' F' N'
theorem rangeNe {h : Heap} {r L : Addr} {a b c : Int} {t u v : Tok} {h₀ : Heap} {m : Str → Option Value} (hr : IsRange h r a b c t u v) (F : Fr h₀ L h m) : ∀ x, Value.ref r = .ref x → x ≠ L := by
  rintro x e rfl
  cases e
  obtain ⟨o, es, ep, ho, hd, _⟩ := F.ns
  rw [show h.get? r = some _ from hr] at ho
  cases ho
  cases hd
end
end Mine

end PartMFor
section PartP2
open PySem PySem.W PySem.Calls PyProof.Rows
namespace Mine
/-- one bit more of the root -/
theorem root_step {r rest : Int} {j : Nat} (hodd : r % 2 = 1) (h : (2 ^ (j + 3) : Int) ∣ r * r - rest) :
    (2 ^ (j + 4) : Int) ∣ (if (r * r - rest).fmod (2 ^ (j + 4)) = 0 then r else r + 2 ^ (j + 2)) * (if (r * r - rest).fmod (2 ^ (j + 4)) = 0 then r else r + 2 ^ (j + 2)) - rest := by
  have hp : (0 : Int) ≤ 2 ^ (j + 4) := Int.pow_nonneg (by decide)
  split
  · rename_i h0
    rw [Int.fmod_eq_emod_of_nonneg _ hp] at h0
    exact Int.dvd_of_emod_eq_zero h0
  · rename_i h0
    rw [Int.fmod_eq_emod_of_nonneg _ hp] at h0
    obtain ⟨t, ht⟩ := h
    have e3 : (2 : Int) ^ (j + 3) = 8 * 2 ^ j := by rw [Int.pow_add]; omega
    have e4 : (2 : Int) ^ (j + 4) = 16 * 2 ^ j := by rw [Int.pow_add]; omega
    have e2 : (2 : Int) ^ (j + 2) = 4 * 2 ^ j := by rw [Int.pow_add]; omega
    rw [e3] at ht
    rw [e4] at h0 ⊢
    rw [e2]
    generalize (2 : Int) ^ j = p at *
    have htodd : t % 2 = 1 := by
      rcases Int.emod_two_eq t with q | q
      · exfalso
        obtain ⟨u, hu⟩ := Int.dvd_of_emod_eq_zero q
        refine h0 (Int.emod_eq_zero_of_dvd ⟨u, ?_⟩)
        rw [ht, hu]
        simp only [Int.mul_assoc, Int.mul_comm, Int.mul_left_comm]
        rfl
      · exact q
    obtain ⟨q, hq⟩ : ∃ q, r = 2 * q + 1 := ⟨r / 2, by omega⟩
    obtain ⟨u, hu⟩ : ∃ u, t = 2 * u + 1 := ⟨t / 2, by omega⟩
    refine ⟨u + 1 + q + p, ?_⟩
    have e : (r + 4 * p) * (r + 4 * p) - rest = (r * r - rest) + 8 * (p * r) + 16 * (p * p) := by
      rw [Int.add_mul, Int.mul_add, Int.mul_add]
      have a1 : r * (4 * p) = 4 * (p * r) := by rw [Int.mul_comm r, Int.mul_assoc]
      have a2 : 4 * p * r = 4 * (p * r) := Int.mul_assoc _ _ _
      have a3 : 4 * p * (4 * p) = 16 * (p * p) := by rw [Int.mul_assoc, Int.mul_left_comm p, ← Int.mul_assoc]; rfl
      rw [a1, a2, a3]
      omega
    rw [e, ht, hu, hq]
    have b1 : 8 * p * (2 * u + 1) = 16 * (p * u) + 8 * p := by rw [Int.mul_add, Int.mul_one, Int.mul_assoc, Int.mul_left_comm p, ← Int.mul_assoc]; rfl
    have b2 : p * (2 * q + 1) = 2 * (p * q) + p := by rw [Int.mul_add, Int.mul_one, Int.mul_left_comm p]
    have b3 : 16 * p * (u + 1 + q + p) = 16 * (p * u) + 16 * p + 16 * (p * q) + 16 * (p * p) := by
      rw [Int.mul_add, Int.mul_add, Int.mul_add, Int.mul_one, Int.mul_assoc, Int.mul_assoc, Int.mul_assoc]
    rw [b1, b2, b3]
    omega
theorem bits64 {a : Int} (h : a.natAbs < 2 ^ 60) : Builtin.Int.intBits a ≤ 64 := intBits_le (Nat.lt_of_lt_of_le h (by decide))
section
variable {prog : Program} {w : World} {A : Around} {s : Shared} {E : Value → Shared → Prop} {Q : Value → Shared → Prop} {a b : Int} {t u : Tok}
theorem r_mul (ha : a.natAbs < 2 ^ 60) (h : ∀ t' tk', Q (.int (a * b) t') { s with toks := tk' }) : wpAny (model prog w) A (binaryOp .Mult (.int a t) (.int b u)) Q E s :=
  PyProof.Rows.mul_int (h _ _) (IntMulOk.of_left (bits64 ha))
theorem r_pow (hb : 0 ≤ b) (hb2 : b ≤ 1000) (ha : a.natAbs < 2 ^ 60) (h : ∀ t' tk', Q (.int (a ^ b.toNat) t') { s with toks := tk' }) : wpAny (model prog w) A (binaryOp .Pow (.int a t) (.int b u)) Q E s :=
  pow_int_small hb (by omega) (Nat.lt_of_lt_of_le ha (by decide)) (h _ _)
theorem r_mod (hb : b ≠ 0) (h : ∀ t' tk', Q (.int (a.fmod b) t') { s with toks := tk' }) : wpAny (model prog w) A (binaryOp .Mod (.int a t) (.int b u)) Q E s :=
  PyProof.Rows.mod_int' hb (h _ _)
end
end Mine

end PartP2
section PartMSet
open PySem PySem.W PySem.Calls PyProof.Rows
set_option maxRecDepth 100000
namespace Mine
section
variable {prog : Program} {w : World} {A : Around} {s : Shared} {E : Value → Shared → Prop} {h₀ : Heap} {L : Addr} {m : Str → Option Value} {news : List (Addr × Obj)}
theorem any_contains {l : List Int} {k : Int} : l.any (· == k) = l.contains k := by
  rw [Bool.eq_iff_iff, List.any_eq_true, List.contains_iff_mem]
  constructor
  · rintro ⟨x, hx, e⟩
    rw [beq_iff_eq] at e; exact e ▸ hx
  · intro h; exact ⟨k, h, by simp⟩
theorem firstMet_in {ns : List Int} {n : Nat} (hn : n = ns.length) {k : Int} : (firstMet (fun i => ns.getD i 0) n).any (· == k) = ns.contains k := by
  subst hn
  rw [firstMet_any, any_contains]
  congr 1
  refine List.ext_getElem (by simp) fun i h1 h2 => ?_
  simp at h1
  simp [h1]
theorem intsAre_of {ks : List Int} {f : Int → Int} : ∀ {ys : List Value}, Paired (fun a y => IsI (f a) y) ks ys → IntsAre ys (ks.map f) := by
  induction ks with
  | nil => intro ys h; cases h; exact .nil
  | cons k ks ih =>
    intro ys h
    cases h with
    | cons h1 h2 =>
      obtain ⟨t, rfl⟩ := h1
      exact .cons _ _ (ih h2)
/-- set of a list of ints -/
theorem r_setList {l : Addr} {c : Nat} {vs : List Value} {ns : List Int} {Q : Value → Shared → Prop} (F : Fr h₀ L s.heap m) (N : News h₀ L s.heap news) (hh : A.handled = none)
    (hm : (l, ({ cls := .type "list", data := .seq vs.toArray c } : Obj)) ∈ news) (hi : IntsAre vs ns) (hb : ns.length < 4000)
    (h : ∀ D h' tk so n, Fr h₀ L h' m → News h₀ L h' ((D, so) :: news) → so.SetObjOf (intKind prog w) (fun k => ns.contains k) n → n < 4000 → Q (.ref D) { s with heap := h', toks := tk }) :
    wpAny (model prog w) A (call (.type "set") [.ref l]) Q E s := by
  have hvn : vs.length = ns.length := IntsAre.length hi
  have hsz : vs.toArray.size = vs.length := List.size_toArray
  refine PySem.call_set_list (items := vs.toArray) (ns := ns) hh ⟨_, (N _ hm).1, rfl, _, rfl⟩ (by simpa using hi) (by rw [hsz, hvn]; unfold scanBound; omega) fun h' tk hS hk => ?_
  obtain ⟨o, ho, hso⟩ := hS.objOf
  obtain ⟨oL, _, _, hL, _⟩ := F.ns
  have hLlt : L < s.heap.objs.size := Heap.lt_size hL
  have hle := firstMet_length_le (fun i => ns.getD i 0) vs.toArray.size
  refine h _ h' tk o _ ⟨F.ns.at' fun o' e => hk L o' hLlt e, fun b o' e => hk b o' (Heap.lt_size (F.keep b o' e)) (F.keep b o' e), F.above⟩ (fun p hp => ?_) ?_ (Nat.lt_of_le_of_lt hle (by omega))
  · rcases List.mem_cons.mp hp with rfl | hp
    · refine ⟨ho, Nat.ne_of_gt hLlt, ?_⟩
      cases hq : h₀.get? s.heap.objs.size with
      | none => rfl
      | some o' => exact absurd (Heap.lt_size (F.keep _ _ hq)) (Nat.lt_irrefl _)
    · exact ⟨hk _ _ (Heap.lt_size (N p hp).1) (N p hp).1, (N p hp).2.1, (N p hp).2.2⟩
  · have e : (fun k => ns.contains k) = (fun k' => (firstMet (fun i => ns.getD i 0) vs.toArray.size).any (· == k')) := funext fun k => (firstMet_in (by omega)).symm
    rw [e]; exact hso
theorem r_inSet {Q : Value → Shared → Prop} {sa : Addr} {so : Obj} {S : Int → Bool} {n : Nat} {k : Int} {t : Tok} (N : News h₀ L s.heap news) (hm : (sa, so) ∈ news) (hso : so.SetObjOf (intKind prog w) S n) (hb : n < 4000)
    (h : Q (.bool (S k)) { s with toks := s.toks + 1 }) : wpAny (model prog w) A (compareOp .In (.int k t) (.ref sa)) Q E s :=
  wpAny_inSet_of (intKind_is _ _ _ _) rfl (hso.setOf (N _ hm).1 (Nat.lt_trans hb (by decide))) h
/-- a range's ints, downwards -/
theorem srcDown {r : Addr} {a b : Int} {t u v : Tok} {n : Nat} {as : List Int} (hh : A.handled = none) (hr : IsRange s.heap r a b (-1) t u v) (hsm : Builtin.Range.small a b (-1) = true) (hn : Builtin.Range.rangeSize a b (-1) = ((n : Nat) : Int)) (has : as = (List.range n).map fun i => a - ((i : Nat) : Int)) :
    Src prog w A IsI as (.ref r) s := by
  subst has
  intro Q E h
  refine wpAny_pyIter_range hr hsm (h s.heap.objs.size [s.heap.objs.size] _ s.toks _ (walksMono (Walks.range hh _ a (-1) n) (by simp) fun i v hi hP => ?_) (by show IsRangeIter _ _ _ _ _; rw [hn]; simpa using Heap.get?_push_size _ rfl) (fun b hb => ?_) (fun b hb => .inl (List.mem_singleton.mp hb)) (freshAt s) fun b o e => Heap.get?_push_of_some _ e)
  · obtain ⟨t, rfl⟩ := hP
    exact ⟨a - (i : Int), by simp [hi], t, by congr 1; omega⟩
  · rw [List.mem_singleton.mp hb, Heap.size_push]; exact Nat.lt_succ_self _
end
end Mine

end PartMSet
section PartMSplit
open PySem PySem.W PySem.Calls PyProof.Rows
set_option maxRecDepth 100000
namespace Mine
open StrLaws Builtin Builtin.Str
def isDot (l : List Nat) (i : Nat) : Bool := decide (l[i]? = some 46)
theorem occ_run (l : List Nat) : ∀ (k a : Nat) (st : Array Nat × Nat), st.snd ≤ a → st.fst.size + k ≤ l.length + 1 →
    (forIn (List.range' a k) st (occBody (S l) (S [46]) (S l).length ((S l).length + 1))).run.fst.toList = st.fst.toList ++ (List.range' a k).filter (isDot l)
  | 0, a, st, _, _ => by simp
  | k + 1, a, st, h1, h2 => by
    rw [List.range'_succ, List.forIn_cons]
    unfold occBody
    by_cases hd : l[a]? = some 46
    · have hA := at_S.mpr hd
      have c1 : ((st.fst.size < (S l).length + 1 ∧ st.snd ≤ a) ∧ a + (S [46]).length ≤ (S l).length) ∧ subAt (S l) (S [46]) a = true := ⟨⟨⟨by rw [S_len]; omega, h1⟩, hA.1⟩, hA.2⟩
      rw [if_pos c1]
      refine (occ_run l k (a + 1) (st.fst.push a, a + (S [46]).length) ?_ ?_).trans ?_
      · show a + 1 ≤ a + 1; exact Nat.le_refl _
      · show (st.fst.push a).size + k ≤ _; rw [Array.size_push]; omega
      · rw [List.filter_cons_of_pos (by unfold isDot; exact decide_eq_true hd)]
        simp
    · have c2 : ¬ (((st.fst.size < (S l).length + 1 ∧ st.snd ≤ a) ∧ a + (S [46]).length ≤ (S l).length) ∧ subAt (S l) (S [46]) a = true) := fun h => hd (at_S.mp ⟨h.1.2, h.2⟩)
      rw [if_neg c2]
      refine (occ_run l k (a + 1) (st.fst, st.snd) (by show st.snd ≤ a + 1; omega) (by show st.fst.size + k ≤ _; omega)).trans ?_
      rw [List.filter_cons_of_neg (by unfold isDot; rw [decide_eq_false hd]; decide)]
theorem occ_dots (l : List Nat) : occurrences (S l) (S [46]) 0 (S l).length ((S l).length + 1) = (List.range' 0 (l.length + 1)).filter (isDot l) := by
  rw [occ_eq]
  have := occ_run l (l.length + 1) 0 (#[], 0) (Nat.le_refl _) (by simp)
  rw [S_len] at this ⊢
  simpa using this
theorem sub_S {pre p post : List Nat} : strSub (S (pre ++ p ++ post)) pre.length (pre.length + p.length) = S p := by
  apply Str.ext'
  apply Array.toList_inj.mp
  rw [strSub_toList]
  show ((pre ++ p ++ post).drop pre.length).take _ = p
  rw [List.append_assoc, List.drop_left]
  simp
theorem noDots {L pre p post : List Nat} (e : L = pre ++ p ++ post) (hp : 46 ∉ p) : (List.range' pre.length p.length).filter (isDot L) = [] := by
  rw [List.filter_eq_nil_iff]
  intro i hi
  rw [List.mem_range'_1] at hi
  unfold isDot
  rw [decide_eq_true_eq, e, List.append_assoc, List.getElem?_append_right hi.1, List.getElem?_append_left (by omega)]
  intro q
  exact hp (List.mem_of_getElem? q)
theorem parts_S : ∀ (ls : List (List Nat)) (p pre : List Nat) (L : List Nat), L = pre ++ joinD (p :: ls) → (∀ q ∈ p :: ls, 46 ∉ q) →
    partsFrom (S L) 1 pre.length ((List.range' pre.length ((joinD (p :: ls)).length + 1)).filter (isDot L)) = (p :: ls).map S
  | [], p, pre, L, e, hf => by
    have e' : L = pre ++ p ++ [] := by rw [e]; simp [joinD]
    have hn := noDots e' (hf p (.head _))
    have h1 : (List.range' pre.length ((joinD [p]).length + 1)).filter (isDot L) = [] := by
      have : (joinD [p]).length = p.length := by simp [joinD]
      rw [this, List.range'_1_concat, List.filter_append, hn]
      have : L[pre.length + p.length]? = none := by rw [e']; simp
      simp [isDot, this]
    rw [h1]
    show [strSub (S L) pre.length (S L).length] = [S p]
    have h2 : (S L).length = pre.length + p.length := by rw [S_len, e']; simp
    rw [h2, e', sub_S]
  | q :: ls, p, pre, L, e, hf => by
    rw [joinD_cons p (by simp)] at e
    have e1 : L = pre ++ p ++ (46 :: joinD (q :: ls)) := by rw [e]; simp
    have e2 : L = (pre ++ p ++ [46]) ++ joinD (q :: ls) := by rw [e]; simp
    have hn := noDots e1 (hf p (.head _))
    have ih := parts_S ls q (pre ++ p ++ [46]) L e2 fun r hr => hf r (.tail _ hr)
    have hl : (joinD (p :: q :: ls)).length + 1 = p.length + (1 + ((joinD (q :: ls)).length + 1)) := by rw [joinD_cons p (by simp)]; simp; omega
    have hdot : isDot L (pre.length + p.length) = true := by
      unfold isDot
      rw [decide_eq_true_eq, e1, List.getElem?_append_right (by simp)]
      simp
    have hlen : (pre ++ p ++ [46]).length = pre.length + p.length + 1 := by simp; omega
    rw [hl, ← List.range'_append_1, List.filter_append, hn, List.nil_append, ← List.range'_append_1, List.filter_append]
    rw [hlen] at ih
    have h3 : (List.range' (pre.length + p.length) 1).filter (isDot L) = [pre.length + p.length] := by simp [List.range', hdot]
    rw [h3, List.cons_append, List.nil_append]
    show strSub (S L) pre.length (pre.length + p.length) :: partsFrom (S L) 1 (pre.length + p.length + 1) _ = _
    rw [ih, e1, sub_S]
    rfl
theorem split_S {p : List Nat} {ls : List (List Nat)} (hf : ∀ q ∈ p :: ls, 46 ∉ q) : Txt.split (S (joinD (p :: ls))) (S [46]) = (p :: ls).map S := by
  have h := parts_S ls p [] (joinD (p :: ls)) rfl hf
  unfold Txt.split
  have hone : ∀ x, partsFrom x 1 0 [] = [x] := fun x => by show [strSub x 0 x.length] = [x]; rw [sub_whole]
  split
  · rename_i hc
    rw [Bool.or_eq_true, decide_eq_true_eq, decide_eq_true_eq] at hc
    have h0 : (joinD (p :: ls)).length = 0 := by
      rcases hc with q | q
      · rw [S_len, S_len] at q; simp at q; simp [q]
      · exfalso
        have : Builtin.Str.strKind (S [46]) = 1 := by decide +kernel
        rw [this] at q
        unfold Builtin.Str.strKind at q
        split at q
        · omega
        · split at q <;> omega
    have hnil : joinD (p :: ls) = [] := List.length_eq_zero_iff.mp h0
    rw [hnil] at h ⊢
    rw [← h]
    rfl
  · rw [occ_dots]
    split
    · rename_i he
      rw [List.isEmpty_iff] at he
      rw [show ([] : List Nat).length = 0 from rfl] at h
      rw [he] at h
      rw [← h, hone]
    · rw [partsBetween_eq]
      exact h
section
variable {prog : Program} {w : World} {A : Around} {s : Shared} {E : Value → Shared → Prop} {Q : Value → Shared → Prop} {h₀ : Heap} {L : Addr} {m : PySem.Str → Option Value} {news : List (Addr × Obj)}
theorem txts_of : ∀ {vs : List Value} {ls : List (List Nat)}, StrsAre vs (ls.map S) → TxtsAre vs ls
  | _, [], h => by cases h; trivial
  | _, l :: ls, h => by
    rw [List.map_cons] at h
    cases h with
    | cons => rename_i h; exact ⟨⟨_, rfl⟩, txts_of h⟩
theorem r_split {l p : List Nat} {ls : List (List Nat)} {t u : Tok} (F : Fr h₀ L s.heap m) (N : News h₀ L s.heap news) (e : l = joinD (p :: ls)) (hf : ∀ q ∈ p :: ls, 46 ∉ q) (hz : l.length ≤ 1000000)
    (h : ∀ D vs h' k, TxtsAre vs (p :: ls) → Fr h₀ L h' m → News h₀ L h' ((D, { cls := .type "list", data := .seq vs.toArray 0 }) :: news) → (∀ q ∈ news, q.1 < D) → Q (.ref D) { s with heap := h', toks := k }) :
    wpAny (model prog w) A (call (.builtin "str.split") [.str (S l) t, .str (S [46]) u]) Q E s := by
  refine KSpl.split1 F N (by decide) (fun D l' h' k e' a F' N' lt => h D (strValues l') h' k ?_ F' N' lt) (by rw [S_len, sizeLine_eq]; omega)
  rw [e', e, split_S hf] at a
  exact txts_of a
theorem drop_from {l : List Value} {i : Int} (h0 : 0 ≤ i) : kms_pick l (some i) none = l.drop i.toNat := by
  unfold kms_pick
  have e2 : kms_hi none l.length = l.length := rfl
  have e1 : kms_lo (some i) l.length = min i.toNat l.length := by
    simp only [kms_lo, if_neg (show ¬ i < 0 by omega)]
    try omega
  rw [e1, e2]
  rcases Nat.le_total i.toNat l.length with q | q
  · rw [Nat.min_eq_left q]; exact List.take_of_length_le (by simp)
  · rw [Nat.min_eq_right q]; simp [List.drop_eq_nil_of_le q]
theorem TxtsAre.drop : ∀ {vs : List Value} {ls : List (List Nat)}, TxtsAre vs ls → ∀ k : Nat, TxtsAre (vs.drop k) (ls.drop k)
  | _, _, h, 0 => h
  | [], [], _, _ + 1 => trivial
  | _ :: _, _ :: _, ⟨_, h⟩, k + 1 => h.drop k
  | [], _ :: _, h, _ => h.elim
  | _ :: _, [], h, _ => h.elim
theorem TxtsAre.get {vs : List Value} {ls : List (List Nat)} (h : TxtsAre vs ls) {i : Nat} {l : List Nat} (e : ls[i]? = some l) : ∃ v, vs[i]? = some v ∧ IsT l v := by
  have hi := (List.getElem?_eq_some_iff.mp e).1
  rw [← h.len] at hi
  obtain ⟨l', e', q⟩ := h.at i vs[i] (List.getElem?_eq_getElem hi)
  rw [e] at e'
  cases e'
  exact ⟨_, List.getElem?_eq_getElem hi, q⟩
/-- a list from an index on -/
theorem r_lfrom {value slice : Expr} {D : Addr} {vs : List Value} {c : Nat} {i : Int} {ui : Tok} (F : Fr h₀ L s.heap m) (N : News h₀ L s.heap news) (hm : (D, ({ cls := .type "list", data := .seq vs.toArray c } : Obj)) ∈ news) (h0 : 0 ≤ i) (hz : vs.length ≤ 1000000)
    (h : ∀ D' h', Fr h₀ L h' m → News h₀ L h' ((D', { cls := .type "list", data := .seq (vs.drop i.toNat).toArray 0 }) :: news) → (∀ q ∈ news, q.1 < D') → Q (.ref D') { s with heap := h' })
    (hs : subscripted slice false (.ref D) (.ref s.heap.objs.size) = operate [.ref s.heap.objs.size, .ref D] (getItem (.ref D) (.ref s.heap.objs.size)) := by with_unfolding_all rfl) (ht : ∀ r, letTemporaryGo value (.ref D) r = pure () := by intro _; with_unfolding_all rfl) :
    wpAny (model prog w) A (subscriptTail value slice (.ref D) (.ref s.heap.objs.size)) Q E { s with heap := s.heap.push { cls := .type "slice", data := .fields #[.int i ui, .none, .none] } } :=
  kms_slice_lit F N ⟨_, (N _ hm).1, rfl, _, rfl⟩ (.int _ _) .none (drop_from h0) h hs ht (by simp; exact fits6 hz)
theorem r_ne {l k : List Nat} {t u : Tok} (h : Q (.bool (!decide (l = k))) s) : wpAny (model prog w) A (compareOp .NotEq (.str (S l) t) (.str (S k) u)) Q E s :=
  PyProof.Rows.ne_str (by rw [show (S l != S k) = !(S l == S k) from rfl, S_beq]; exact h)
theorem r_ord {c : Nat} {t : Tok} (h : ∀ t' tk', Q (.int c t') { s with toks := tk' }) : wpAny (model prog w) A (call (.builtin "ord") [.str (S [c]) t]) Q E s := P.ord_of_char (h _ _)
theorem ldQ {M : Model} {nm : PySem.Str} {scope : Scope} {a : Addr} {cd : Value} {x : PySem.Str} {pos : Pos} {v : Value} (F : Fr h₀ L s.heap m) (hv : m x = some v) (h : Q v s)
    (hk : scope.kind = .function := by rfl) (hl : (envOfC nm scope L a cd).kindOf x = some .local := by rfl) (hd : (x == ("__debug__" : PySem.Str)) = false := by decide) :
    wpAny M A (eval (.Name x pos) (envOfC nm scope L a cd)) Q E s := wpAny_Name (wpAny_loadName_local hk hl F.ns hv h) hd
theorem r_append {D : Addr} {vs : List Value} {c : Nat} {x : Value} {rest : List (Addr × Obj)} (F : Fr h₀ L s.heap m) (N : News h₀ L s.heap ((D, { cls := .type "list", data := .seq vs.toArray c }) :: rest)) (ap : ∀ p ∈ rest, p.1 ≠ D) (hz : vs.length ≤ 1000000)
    (h : ∀ h', Fr h₀ L h' m → News h₀ L h' ((D, { cls := .type "list", data := .seq (vs ++ [x]).toArray (c + 1) }) :: rest) → Q .none { s with heap := h' }) : wpAny (model prog w) A (call (.builtin "list.append") [.ref D, x]) Q E s := by
  have z := N _ (.head _)
  refine append_at (hsz := by simp; exact fits6 hz) z.1 fun h' hs ho' => h h' (F.change hs z.2.1 z.2.2) (news_set (pre := []) N (fun _ hp => nomatch hp) ap hs ?_)
  rw [ho']
  simp
theorem r_llen {D : Addr} {vs : List Value} {c : Nat} (N : News h₀ L s.heap news) (hm : (D, ({ cls := .type "list", data := .seq vs.toArray c } : Obj)) ∈ news) (hz : vs.length ≤ 1000000) (h : ∀ t' tk', Q (.int vs.length t') { s with toks := tk' }) : wpAny (model prog w) A (call (.builtin "len") [.ref D]) Q E s :=
  len_list ⟨_, (N _ hm).1, rfl, _, rfl⟩ (by simp; omega) (by simpa using h _ _)
theorem r_neT {l k : List Nat} {t u : Tok} (e : l ≠ k) (h : Q (.bool true) s) : wpAny (model prog w) A (compareOp .NotEq (.str (S l) t) (.str (S k) u)) Q E s := r_ne (by rw [decide_eq_false e]; exact h)
theorem r_neF {l k : List Nat} {t u : Tok} (e : l = k) (h : Q (.bool false) s) : wpAny (model prog w) A (compareOp .NotEq (.str (S l) t) (.str (S k) u)) Q E s := r_ne (by rw [decide_eq_true e]; exact h)
theorem r_lfromS {value slice : Expr} {D : Addr} {vs : List Value} {c : Nat} {i : Int} {ui : Tok} (hm : s.heap.get? D = some { cls := .type "list", data := .seq vs.toArray c }) (h0 : 0 ≤ i) (hz : vs.length ≤ 1000000)
    (h : ∀ D' h', s.heap.StaysIn h' → s.heap.get? D' = none → h'.get? D' = some { cls := .type "list", data := .seq (vs.drop i.toNat).toArray 0 } → Q (.ref D') { s with heap := h' })
    (hs : subscripted slice false (.ref D) (.ref s.heap.objs.size) = operate [.ref s.heap.objs.size, .ref D] (getItem (.ref D) (.ref s.heap.objs.size)) := by with_unfolding_all rfl) (ht : ∀ r, letTemporaryGo value (.ref D) r = pure () := by intro _; with_unfolding_all rfl) :
    wpAny (model prog w) A (subscriptTail value slice (.ref D) (.ref s.heap.objs.size)) Q E { s with heap := s.heap.push { cls := .type "slice", data := .fields #[.int i ui, .none, .none] } } := by
  have hl : s.heap.IsList D vs.toArray := ⟨_, hm, rfl, _, rfl⟩
  refine subscriptTail_ops (Heap.IsList.typeIs (s := { s with heap := s.heap.push { cls := .type "slice", data := .fields #[.int i ui, .none, .none] } }) (hl.push _)) list_getitem_lookup
    (wpAny_getItem_list_slice (hl.push _) (Heap.IsSliceOf.new ..) (.int _ _) .none .none (by simp) ?_ (by simp; exact fits6 hz)) hs ht
  have e : slicePick vs.toArray (some i) none none = (vs.drop i.toNat).toArray := by
    rw [kms_pick_eq, drop_from h0]
  rw [e]
  refine h _ _ (fun b o e => Heap.get?_push_of_some _ (Heap.get?_push_of_some _ e)) ?_ (Heap.get?_push_size _ rfl)
  cases e : s.heap.get? (s.heap.push { cls := .type "slice", data := .fields #[.int i ui, .none, .none] }).objs.size with
  | none => rfl
  | some o =>
    have := Heap.lt_size e
    rw [Heap.size_push] at this
    exact absurd (Nat.lt_trans (Nat.lt_succ_self _) this) (Nat.lt_irrefl _)
theorem rangeUp {a b : Int} {n : Nat} (ha : 0 ≤ a) (hb : b = a + n) (hz : b ≤ 1000000) : Builtin.Range.small a b 1 = true ∧ Builtin.Range.rangeSize a b 1 = ((n : Nat) : Int) := by
  have e : Builtin.Range.rangeSize a b 1 = ((n : Nat) : Int) := by rw [rangeSize_nat]; omega
  refine ⟨?_, e⟩
  unfold Builtin.Range.small
  rw [e]
  simp only [Builtin.Range.rangeFitsLong, Bool.and_eq_true, Bool.or_eq_true, decide_eq_true_eq, beq_iff_eq, show ((1 : Int) > 0) by decide, if_true]
  omega
end
end Mine

end PartMSplit
section PartMPair
open PySem PySem.W PySem.Calls PyProof.Rows
set_option maxRecDepth 100000
namespace Mine
theorem neA {a b : Addr} (h : @Ne Nat a b) : a ≠ b := h
theorem eqA {a b : Addr} (h : a = b) : @Eq Nat a b := h
theorem ltA {h : Heap} {b : Addr} {o : Obj} (e : h.get? b = some o) : @LT.lt Nat _ b h.objs.size := Heap.lt_size e
/-- what the element of a comprehension over places and items must do -/
def PairElt (prog : Program) (w : World) (A : Around) (env : Env) (scope : Scope) (cl : List (Str × Addr)) (a b : Str) (elt : Expr) (h₀ : Heap) (L : Addr) (m : Str → Option Value) (news : List (Addr × Obj)) (vs : List Value) (G : Nat → Value → Value → Prop) : Prop :=
  ∀ C i v t s₃ m₃ E', vs[i]? = some v → m₃ a = some (.int ((i : Nat) : Int) t) → m₃ b = some v → Fr h₀ L s₃.heap m → News h₀ L s₃.heap news → Fr h₀ C s₃.heap m₃ → News h₀ C s₃.heap news →
    wpAny (model prog w) A (eval elt (compEnvC scope cl C env)) (fun z s₄ => G i v z ∧ Keeps s₃ s₄) E' s₃
section
variable {prog : Program} {w : World} {A : Around} {E : Value → Shared → Prop} {env : Env} {s : Shared} {h₀ : Heap} {L : Addr} {m : Str → Option Value} {news : List (Addr × Obj)} {scope : Scope} {cl : List (Str × Addr)} {a b y : Str} {elt iter : Expr} {pa pb py tp pos spos : Pos} {kk : Nat} {l : Addr} {vs : List Value} {G : Nat → Value → Value → Prop}

theorem enum_block {RR : Value → Addr → Result → Shared → Prop} (hh : A.handled = none) (F : Fr h₀ L s.heap m) (N : News h₀ L s.heap news) (hl : s.heap.IsList l vs.toArray) (hab : ¬ a = b) (hsz : vs.length ≤ sizeLine)
    (hcell : ∀ y ∈ scope.names, y.2 ≠ .cell) (hkind : scope.kind = .function) (hxa : scope.names.lookup a = some .local) (hxb : scope.names.lookup b = some .local)
    (T : PairElt prog w A env scope cl a b elt h₀ L m news vs G)
    (hRR : ∀ D C h' tk m' c (ys : List Value), s.heap.get? D = none → s.heap.get? C = none → D ≠ C → h'.Ns C m' → h'.get? D = some { cls := .type "list", data := .seq ys.toArray c } → ys.length = vs.length →
      (∀ i z v, ys[i]? = some z → vs[i]? = some v → G i v z) → s.heap.StaysIn h' → RR (.ref D) C (.ok .next) { s with heap := h', toks := tk }) :
    wpAny (model prog w) A (call (.type "enumerate") [.ref l]) (fun xv s₁ => wpAny (model prog w) A (pyIter xv) (fun it s₂ => wpAny (model prog w) A (newList []) (fun acc s₃ => wpAny (model prog w) A (newFunctionEnv scope env.globals cl [] env.qual none .none (some env)) (fun cenv s₄ =>
      codeAny (model prog w) A (.compStart (.ListComp elt [⟨.Tuple [.Name a pa, .Name b pb] kk tp, iter, [], 0⟩] scope pos) 0 it acc { cenv with scope := relabel scope env }) (RR acc cenv.locals) s₄) E s₃) E s₂) E s₁) E s := by
  have hlt : @LT.lt Nat _ l s.heap.objs.size := by obtain ⟨_, e, _⟩ := hl; exact Heap.lt_size e
  refine call_enumerate_list hl fun hE he hit hszE hkE => ?_
  refine wpAny_pyIter_enum he ?_
  generalize hIe : s.heap.objs.size + 1 = I at he ⊢
  generalize hJe : s.heap.objs.size = J at he hit hIe hszE hlt
  have hlJ : l ≠ J := Nat.ne_of_lt hlt
  have hlI : l ≠ I := neA (by omega)
  have hJI : I ≠ J := by omega
  have W := WalksT.enumerate (prog := prog) (w := w) (A := A) hh I J l hJI hlI hlJ vs.toArray
  have hnone : ∀ b : Nat, J ≤ b → s.heap.get? b = none := fun b hb => by
    cases e : s.heap.get? b with
    | none => rfl
    | some o => exact absurd (ltA e) (Nat.not_lt.mpr (hJe ▸ hb))
  have hwr : ∀ b o, s.heap.get? b = some o → b ∉ [I, J] := fun b o e hb => by
    have := ltA e
    rcases List.mem_cons.mp hb with q | hb
    · have := eqA q; omega
    · rw [List.mem_singleton] at hb; have := eqA hb; omega
  refine wpAny_newObj_type (wpAny_newFunctionEnv hcell (by intro y hy; simp at hy) (fun h₁ hns₁ hsb₁ => ?_) hkind)
  dsimp only at hns₁ hsb₁ ⊢
  generalize hH2 : hE.push { cls := .type "list", dict := none, data := .seq ([] : List Value).toArray } = H2 at hns₁ hsb₁ ⊢
  generalize hDe : hE.objs.size = D at *
  have hCe : H2.objs.size = D + 1 := by rw [← hH2, Heap.size_push, hDe]
  generalize hCg : H2.objs.size = C at *
  have hDC : D ≠ C := neA (by omega)
  have oldE : ∀ b o, hE.get? b = some o → h₁.get? b = some o := fun b o e => by
    have := ltA e
    exact hsb₁.extBut b o (neA (by omega)) (Heap.get?_push_of_some _ (hH2 ▸ Heap.get?_push_of_some _ e))
  have hacc : h₁.PlainList D #[] := ⟨_, hsb₁.extBut _ _ hDC (Heap.get?_push_of_some _ (hH2 ▸ hDe ▸ Heap.get?_push_size _ rfl))⟩
  have hst₁ := W.frame 0 hE h₁ ⟨⟨_, by simpa using he⟩, hit, hl.at fun o e => hkE l o e⟩ fun b _ o e => oldE b o e
  have old : ∀ b o, s.heap.get? b = some o → h₁.get? b = some o := fun b o e => oldE b o (hkE b o e)
  have hnw : ∀ x ∈ [I, J, l], x ≠ D ∧ x ≠ C := fun x hx => by
    rcases List.mem_cons.mp hx with q | hx
    · have := eqA q; exact ⟨neA (by omega), neA (by omega)⟩
    rcases List.mem_cons.mp hx with q | hx
    · have := eqA q; exact ⟨neA (by omega), neA (by omega)⟩
    · rw [List.mem_singleton] at hx; have := eqA hx; exact ⟨neA (by omega), neA (by omega)⟩
  have lo : ∀ b o, s.heap.get? b = some o → b ≠ D ∧ b ≠ C := fun b o e => by
    have := ltA e
    exact ⟨neA (by omega), neA (by omega)⟩
  have loop : ∀ s₃ : Shared, s₃ = { s with heap := h₁, toks := s.toks + ([] : List (Str × Value)).length } →
      codeAny (model prog w) A (.compLoop (.ListComp elt [⟨.Tuple [.Name a pa, .Name b pb] kk tp, iter, [], 0⟩] scope pos) 0 (.ref I) (.ref D) (compEnvC scope cl C env)) (RR (.ref D) C) s₃ := by
    rintro s₃ rfl
    refine kcp_loop
      (fun k s' => ∃ h' tk i m', ∃ ys : List Value, s' = { s with heap := h', toks := tk } ∧ i ≤ vs.length ∧ k = vs.length + 1 - i ∧ ys.length = i ∧ ((∃ old, IsEnum h' I J i old) ∧ h'.IsListIter J l i ∧ h'.IsList l vs.toArray) ∧ h'.PlainList D ys.toArray ∧ h'.Ns C m' ∧
        (∀ i z v, ys[i]? = some z → vs[i]? = some v → G i v z) ∧ s.heap.StaysIn h') ?_ (vs.length + 1)
      ⟨h₁, _, 0, _, [], rfl, Nat.zero_le _, rfl, rfl, hst₁, hacc, hns₁, fun i z v hz => by simp at hz, old⟩
    rintro k s' ⟨h', tk, i, m', ys, rfl, hi, rfl, hyl, hst, hD', hn', hG, hk'⟩
    by_cases hlt : i < vs.length
    · refine W.item i _ _ _ (by simpa using hlt) hst fun Tt vals h₂ tk₂ hP _ hTup hMid hk₂ => ?_
      obtain ⟨t, x, hx, rfl⟩ := hP
      have hx' : vs[i]? = some x := by simpa using hx
      refine W.go _ _ _ i Tt _ _ _ hMid fun h₃ hst₃ hk₃ => ?_
      have hTw := W.apart i Tt h₂ hMid
      have up₃ : ∀ c o, c ∉ [I, J] → h'.get? c = some o → h₃.get? c = some o := fun c o hc e => hk₃ c o hc (hk₂ c o hc e)
      have hCw : C ∉ [I, J] := fun h => (hnw C (by
        rcases List.mem_cons.mp h with q | h
        · exact q ▸ List.mem_cons_self
        · exact List.mem_cons_of_mem _ (List.mem_cons.mpr (.inl (List.mem_singleton.mp h))))).2 rfl
      have hDw : D ∉ [I, J] := fun h => (hnw D (by
        rcases List.mem_cons.mp h with q | h
        · exact q ▸ List.mem_cons_self
        · exact List.mem_cons_of_mem _ (List.mem_cons.mpr (.inl (List.mem_singleton.mp h))))).1 rfl
      refine kcp_assign (env := compEnvC scope cl C env) hh (hTup.at fun o e => hk₃ _ o hTw e) (lookup_relabel_local hxa) (lookup_relabel_local hxb) (by simp [compEnvC, relabel, hkind]) (hn'.at' fun o e => up₃ _ o hCw e) fun h₄ tk₄ hn₄ hs₄ => ?_
      have st4 : s.heap.StaysIn h₄ := fun b o e => hs₄ b o (lo b o e).2 (up₃ b o (hwr b o e) (hk' b o e))
      have hst4 := W.frame _ _ h₄ hst₃ fun b hb o e => hs₄ b o (hnw b hb).2 e
      have hD4 : h₄.PlainList D ys.toArray := hD'.at fun o e => hs₄ _ o hDC (up₃ D o hDw e)
      have F4 : Fr h₀ L h₄ m := frStays F st4
      have N4 : News h₀ L h₄ news := newsStays N st4
      obtain ⟨oL, _, _, hLo, _⟩ := id F.ns
      have hLs := ltA hLo
      have FC : Fr h₀ C h₄ (fun z => if z = b then some x else if z = a then some (.int ((i : Nat) : Int) t) else m' z) := ⟨hn₄, F4.keep, Nat.le_trans F.above (Nat.le_of_lt (Nat.lt_of_lt_of_le hLs (by omega)))⟩
      have NC : News h₀ C h₄ news := fun q hq => ⟨(N4 q hq).1, (lo _ _ (N q hq).1).2, (N q hq).2.2⟩
      refine wpAny_mono (T C i x t _ _ _ hx' (by simp [hab]) (by simp) F4 N4 FC NC) (fun z s₅ h₅ => ?_) fun _ _ e => e
      obtain ⟨hGz, h₅, tk₅, rfl, hk₅⟩ := h₅
      refine wpAny_list_append_plain (hsz := by simp; omega) (hD4.at fun o e => hk₅ _ o e) fun h₆ hl₆ hs₆ => ?_
      have e6 : ys.toArray.push z = (ys ++ [z]).toArray := by simp
      rw [e6] at hl₆
      refine ⟨vs.length + 1 - (i + 1), by omega, h₆, tk₅, i + 1, _, ys ++ [z], rfl, hlt, rfl, by simp [hyl], ?_, hl₆, (hn₄.keeps hk₅).sameBut hs₆ (Ne.symm hDC), ?_, fun b o e => hs₆.extBut b o (lo b o e).1 (hk₅ b o (st4 b o e))⟩
      · exact W.frame _ _ h₆ hst4 fun b hb o e => hs₆.extBut b o (hnw b hb).1 (hk₅ b o e)
      · intro j u v hu hv
        rcases Nat.lt_trichotomy j i with q | q | q
        · exact hG j u v (by rwa [List.getElem?_append_left (by omega)] at hu) hv
        · subst q
          rw [List.getElem?_append_right (by omega), hyl, Nat.sub_self] at hu
          cases hu
          rw [hx'] at hv; cases hv
          exact hGz
        · rw [List.getElem?_eq_none (by rw [List.length_append, List.length_singleton]; omega)] at hu; cases hu
    · obtain rfl : i = vs.length := by omega
      have hst' : ((∃ old, IsEnum h' I J (vs.toArray.size : Nat) old) ∧ h'.IsListIter J l vs.toArray.size ∧ h'.IsList l vs.toArray) := by simpa using hst
      refine W.done _ _ _ hst' fun h₂ tk₂ hk₂ => ?_
      have hCw : C ∉ [I, J] := fun h => (hnw C (by
        rcases List.mem_cons.mp h with q | h
        · exact q ▸ List.mem_cons_self
        · exact List.mem_cons_of_mem _ (List.mem_cons.mpr (.inl (List.mem_singleton.mp h))))).2 rfl
      have hDw : D ∉ [I, J] := fun h => (hnw D (by
        rcases List.mem_cons.mp h with q | h
        · exact q ▸ List.mem_cons_self
        · exact List.mem_cons_of_mem _ (List.mem_cons.mpr (.inl (List.mem_singleton.mp h))))).1 rfl
      obtain ⟨c, hDp⟩ := hD'
      exact hRR D C h₂ tk₂ m' c ys (hnone D (by omega)) (hnone C (by omega)) hDC (hn'.at' fun o e => hk₂ _ o hCw e) (hk₂ D _ hDw hDp) hyl hG fun b o e => hk₂ b o (hwr b o e) (hk' b o e)
  exact codeAny_compStart_list (loop _ rfl) (W.self 0 _ _ _ hst₁ (loop _ rfl))

def CompPr (prog : Program) (w : World) (A : Around) (E : Value → Shared → Prop) (env : Env) (scope : Scope) (cl : List (Str × Addr)) (e : Expr) (use : Option (Value → Sem Unit)) (Q : Value → Shared → Prop) (xv : Value) (s₁ : Shared) : Prop :=
  wpAny (model prog w) A (pyIter xv) (fun it s₂ => wpAny (model prog w) A (newList []) (fun acc s₃ => wpAny (model prog w) A (newFunctionEnv scope env.globals cl [] env.qual none .none (some env)) (fun cenv s₄ =>
      codeAny (model prog w) A (.compStart e 0 it acc { cenv with scope := relabel scope env }) (compPost (model prog w) A E use Q acc cenv.locals) s₄) E s₃) E s₂) E s₁
theorem compP {Q : Value → Shared → Prop}
    (hclos : closureFor scope env = pure cl) (hkind : scope.kind = .function) (hnames : ∀ y ∈ scope.names, y.2 = .local → scope.names.lookup y.1 = some .local) (hs : ∀ x, foldedSetIterable iter env x = pure x)
    (h : wpAny (model prog w) A (eval iter env) (CompPr prog w A E env scope cl (.ListComp elt [⟨.Tuple [.Name a pa, .Name b pb] kk tp, iter, [], 0⟩] scope pos) none Q) E s) :
    wpAny (model prog w) A (eval (.ListComp elt [⟨.Tuple [.Name a pa, .Name b pb] kk tp, iter, [], 0⟩] scope pos) env) Q E s := by
  rw [eval_ListComp]
  exact wpAny_comprehension_free (use := none) rfl hs hclos hkind hnames h
theorem compPA {Q : Flow → Shared → Prop}
    (hsw : swapsWith (.ListComp elt [⟨.Tuple [.Name a pa, .Name b pb] kk tp, iter, [], 0⟩] scope pos) (some (.Name y py)) spos.line env = pure true)
    (hclos : closureFor scope env = pure cl) (hkind : scope.kind = .function) (hnames : ∀ y ∈ scope.names, y.2 = .local → scope.names.lookup y.1 = some .local) (hs : ∀ x, foldedSetIterable iter env x = pure x)
    (h : wpAny (model prog w) A (eval iter env) (CompPr prog w A E env scope cl (.ListComp elt [⟨.Tuple [.Name a pa, .Name b pb] kk tp, iter, [], 0⟩] scope pos) (some (assign (.Name y py) env)) (fun _ s' => Q .next s')) E s) :
    wpAny (model prog w) A (exec (.Assign [.Name y py] (.ListComp elt [⟨.Tuple [.Name a pa, .Name b pb] kk tp, iter, [], 0⟩] scope pos) spos) env) Q E s := by
  rw [exec_Assign_Name_used _ _ _ _ hsw]
  refine wpAny_bind (wpAny_standAt (wpAny_bind ?_))
  show wpAny _ A (do let _ ← comprehension (.ListComp elt [⟨.Tuple [.Name a pa, .Name b pb] kk tp, iter, [], 0⟩] scope pos) scope env _ (newList []) false (eval iter env) (some (assign (.Name y py) env))) _ _ s
  exact wpAny_bind (wpAny_mono (wpAny_comprehension_free (use := some (assign (.Name y py) env)) (Q := fun _ s' => Q .next s') rfl hs hclos hkind hnames h) (fun _ s' hq => wpAny_pure (wpAny_pure hq)) fun _ _ e => e)

theorem enum_comp {Q : Value → Shared → Prop} (G : Nat → Value → Value → Prop) (hh : A.handled = none) (F : Fr h₀ L s.heap m) (N : News h₀ L s.heap news) (hl : s.heap.IsList l vs.toArray) (hab : ¬ a = b) (hsz : vs.length ≤ sizeLine)
    (hcell : ∀ y ∈ scope.names, y.2 ≠ .cell) (hkind : scope.kind = .function) (hxa : scope.names.lookup a = some .local) (hxb : scope.names.lookup b = some .local)
    (T : PairElt prog w A env scope cl a b elt h₀ L m news vs G)
    (hfin : ∀ D c h' tk (ys : List Value), Fr h₀ L h' m → News h₀ L h' ((D, { cls := .type "list", data := .seq ys.toArray c }) :: news) → (∀ q ∈ news, q.1 ≠ D) → ys.length = vs.length → (∀ i z v, ys[i]? = some z → vs[i]? = some v → G i v z) → Q (.ref D) { s with heap := h', toks := tk }) :
    wpAny (model prog w) A (call (.type "enumerate") [.ref l]) (CompPr prog w A E env scope cl (.ListComp elt [⟨.Tuple [.Name a pa, .Name b pb] kk tp, iter, [], 0⟩] scope pos) none Q) E s := by
  refine enum_block (G := G) (RR := fun acc C => compPost (model prog w) A E none Q acc C) hh F N hl hab hsz hcell hkind hxa hxb T ?_
  intro D C h' tk m' c ys hD hC hDC hn hl' hlen hG hk
  refine ⟨m', hn, fun h'' hs'' => ?_⟩
  have st2 : s.heap.StaysIn h'' := fun b o e => hs''.extBut b o (by rintro rfl; rw [hC] at e; cases e) (hk b o e)
  have hDn : ∀ b o, s.heap.get? b = some o → b ≠ D := fun b o e q => by rw [q, hD] at e; cases e
  obtain ⟨oL, _, _, hLo, _⟩ := id F.ns
  refine hfin D c h'' tk ys (frStays F st2) (fun q hq => ?_) (fun q hq => hDn _ _ (N q hq).1) hlen hG
  rcases List.mem_cons.mp hq with rfl | hq
  · refine ⟨hs''.extBut _ _ hDC hl', Ne.symm (hDn L oL hLo), ?_⟩
    cases e : h₀.get? D with
    | none => rfl
    | some o => exact absurd rfl (hDn D o (F.keep D o e))
  · exact newsStays N st2 q hq

theorem enum_compA {Q : Value → Shared → Prop} (G : Nat → Value → Value → Prop) (hh : A.handled = none) (hL : env.locals = L) (F : Fr h₀ L s.heap m) (N : News h₀ L s.heap news) (hl : s.heap.IsList l vs.toArray) (hab : ¬ a = b) (hsz : vs.length ≤ sizeLine)
    (hcell : ∀ y ∈ scope.names, y.2 ≠ .cell) (hkind : scope.kind = .function) (hxa : scope.names.lookup a = some .local) (hxb : scope.names.lookup b = some .local)
    (hy : env.kindOf y = some .local) (hp : (env.scope.kind == .class || (env.scope.kind == .module && env.locals != env.globals)) = false)
    (T : PairElt prog w A env scope cl a b elt h₀ L m news vs G)
    (hfin : ∀ D c h' tk (ys : List Value), Fr h₀ L h' (fun z => if z = y then some (.ref D) else m z) → News h₀ L h' ((D, { cls := .type "list", data := .seq ys.toArray c }) :: news) → (∀ q ∈ news, q.1 ≠ D) → ys.length = vs.length → (∀ i z v, ys[i]? = some z → vs[i]? = some v → G i v z) → Q .none { s with heap := h', toks := tk }) :
    wpAny (model prog w) A (call (.type "enumerate") [.ref l]) (CompPr prog w A E env scope cl (.ListComp elt [⟨.Tuple [.Name a pa, .Name b pb] kk tp, iter, [], 0⟩] scope pos) (some (assign (.Name y py) env)) Q) E s := by
  refine enum_block (G := G) (RR := fun acc C => compPost (model prog w) A E (some (assign (.Name y py) env)) Q acc C) hh F N hl hab hsz hcell hkind hxa hxb T ?_
  intro D C h' tk m' c ys hD hC hDC hn hl' hlen hG hk
  have hDn : ∀ b o, s.heap.get? b = some o → b ≠ D := fun b o e q => by rw [q, hD] at e; cases e
  have hCn : ∀ b o, s.heap.get? b = some o → b ≠ C := fun b o e q => by rw [q, hC] at e; cases e
  obtain ⟨oL, _, _, hLo, _⟩ := id F.ns
  have hLD := hDn L oL hLo
  have hLC := hCn L oL hLo
  have hLh : ∀ b o, h₀.get? b = some o → b ≠ L := fun b o e q => by subst q; exact absurd (Heap.lt_size e) (Nat.not_lt.mpr F.above)
  show wpAny _ A (assign (.Name y py) env (.ref D)) _ _ _
  subst hL
  refine wpAny_assign_Name (wpAny_storeName_local hy (F.ns.at' fun o e => hk _ o e) (fun h₂ hn₂ hs₂ => ?_) hp)
  refine ⟨m', hn.sameBut hs₂ (Ne.symm hLC), fun h₃ hs₃ => ?_⟩
  have up : ∀ b o, b ≠ env.locals → s.heap.get? b = some o → h₃.get? b = some o := fun b o hb e => hs₃.extBut b o (hCn b o e) (hs₂.extBut b o hb (hk b o e))
  refine hfin D c h₃ _ ys ⟨hn₂.sameBut hs₃ hLC, fun b o e => up b o (hLh b o e) (F.keep b o e), F.above⟩ (fun q hq => ?_) (fun q hq => hDn _ _ (N q hq).1) hlen hG
  rcases List.mem_cons.mp hq with rfl | hq
  · refine ⟨hs₃.extBut _ _ hDC (hs₂.extBut _ _ (Ne.symm hLD) hl'), Ne.symm hLD, ?_⟩
    cases e : h₀.get? D with
    | none => rfl
    | some o => exact absurd rfl (hDn D o (F.keep D o e))
  · exact ⟨up _ _ (N q hq).2.1 (N q hq).1, (N q hq).2⟩
end
end Mine

end PartMPair
section PartMLaw
open PySem PySem.W PySem.Calls PyProof.Rows
set_option maxRecDepth 100000
namespace Mine
section
variable {prog : Program} {w : World} {A : Around} {s : Shared} {E : Value → Shared → Prop} {Q : Value → Shared → Prop} {h₀ : Heap} {L : Addr} {m : Str → Option Value} {news : List (Addr × Obj)} {t u : Tok}
theorem isl {h : Heap} {l : Addr} {vs : List Value} {c : Nat} (e : h.get? l = some { cls := .type "list", data := .seq vs.toArray c }) : h.IsList l vs.toArray := ⟨_, e, rfl, _, rfl⟩
/-- the sum of a list of ints -/
theorem r_sumS {l : Addr} {vs : List Value} {ns : List Int} (hh : A.handled = none) (hl : s.heap.IsList l vs.toArray) (hi : IntsAre vs ns)
    (h : ∀ h' tk t', s.heap.StaysIn h' → Q (.int ns.sum t') { s with heap := h', toks := tk }) :
    wpAny (model prog w) A (call (.builtin "sum") [.ref l]) Q E s := by
  obtain ⟨xs, hx⟩ := hi.allInts.items
  have hn : numsOf vs.toArray.toList = ns := by rw [show vs.toArray.toList = vs from rfl, hi.numsOf]
  rw [hx] at hl hn
  rw [nums_intItems] at hn
  refine sum_intListG hh hl fun h' tk t' hk => ?_
  have := h h' tk t' hk
  rw [preSum_eq, List.take_of_length_le (by simp), hn]
  exact this
/-- a slice of a list -/
theorem r_lpickS {value slice : Expr} {D : Addr} {vs : List Value} {vl vu vk : Value} {lo hi st : Option Int} {ops : List Value} (hl : s.heap.IsList D vs.toArray) (pl : IsPart vl lo) (pu : IsPart vu hi) (pk : IsPart vk st) (h0 : st ≠ some 0) (hz : vs.length ≤ 1000000)
    (h : ∀ D' h', s.heap.StaysIn h' → s.heap.get? D' = none → h'.get? D' = some { cls := .type "list", data := .seq (slicePick vs.toArray lo hi st).toList.toArray } → Q (.ref D') { s with heap := h' })
    (hs : subscripted slice false (.ref D) (.ref s.heap.objs.size) = operate ops (getItem (.ref D) (.ref s.heap.objs.size)) := by with_unfolding_all rfl) (ht : ∀ r, letTemporaryGo value (.ref D) r = pure () := by intro _; with_unfolding_all rfl) :
    wpAny (model prog w) A (subscriptTail value slice (.ref D) (.ref s.heap.objs.size)) Q E { s with heap := s.heap.push { cls := .type "slice", data := .fields #[vl, vu, vk] } } := by
  refine subscriptTail_ops (Heap.IsList.typeIs (s := { s with heap := s.heap.push { cls := .type "slice", data := .fields #[vl, vu, vk] } }) (hl.push _)) list_getitem_lookup
    (wpAny_getItem_list_slice (hl.push _) (Heap.IsSliceOf.new ..) pl pu pk h0 ?_ (by simp; exact fits6 hz)) hs ht
  refine h _ _ (fun b o e => Heap.get?_push_of_some _ (Heap.get?_push_of_some _ e)) ?_ (by rw [Array.toArray_toList]; exact Heap.get?_push_size _ rfl)
  cases e : s.heap.get? (s.heap.push { cls := .type "slice", data := .fields #[vl, vu, vk] }).objs.size with
  | none => rfl
  | some o =>
    have := Heap.lt_size e
    rw [Heap.size_push] at this
    exact absurd (Nat.lt_trans (Nat.lt_succ_self _) this) (Nat.lt_irrefl _)
theorem r_isntF {M : Model} {a b : Bool} (e : a = b) (h : Q (.bool false) s) : wpAny M A (compareOp .IsNot (.bool a) (.bool b)) Q E s := isnot_bool (by subst e; simpa using h)
/-- figures laid out -/
theorem digits_sum : ∀ (ys : List Value) (k : Nat), (∀ (i : Nat) (z : Value), ys[i]? = some z → ∃ (d : Int) (t : Tok), 0 ≤ d ∧ d < 16 ∧ z = .int (d * 16 ^ (k + i)) t) → ∃ ms : List Int, IntsAre ys ms ∧ 0 ≤ ms.sum ∧ ms.sum + 16 ^ k ≤ 16 ^ (k + ys.length)
  | [], k, _ => ⟨[], .nil, by simp, by simp⟩
  | y :: ys, k, h => by
    obtain ⟨d, t, h0, h1, rfl⟩ := h 0 y rfl
    obtain ⟨ms, hm, h2, h3⟩ := digits_sum ys (k + 1) fun i z hz => by
      obtain ⟨d, t, a, b, c⟩ := h (i + 1) z (by simpa using hz)
      exact ⟨d, t, a, b, by rw [c, show k + (i + 1) = k + 1 + i by omega]⟩
    refine ⟨d * 16 ^ (k + 0) :: ms, .cons _ _ hm, ?_, ?_⟩
    · rw [List.sum_cons]
      have : 0 ≤ d * 16 ^ (k + 0) := Int.mul_nonneg h0 (Int.pow_nonneg (by decide))
      omega
    · rw [List.sum_cons, List.length_cons, show k + (ys.length + 1) = k + 1 + ys.length by omega]
      have hp : (0 : Int) < 16 ^ k := Int.pow_pos (by decide)
      have e : (16 : Int) ^ (k + 1) = 16 * 16 ^ k := by rw [Int.pow_succ, Int.mul_comm]
      rw [e] at h3
      rw [Nat.add_zero]
      have : d * 16 ^ k ≤ 15 * 16 ^ k := Int.mul_le_mul_of_nonneg_right (by omega) (by omega)
      omega
theorem pick_ints {vs : List Value} {ns : List Int} (hi : IntsAre vs ns) (lo hi' st : Option Int) : ∃ ks, IntsAre (slicePick vs.toArray lo hi' st).toList ks := ⟨_, hi.pick lo hi' st⟩
theorem pick_upto {vs : List Value} {ns : List Int} (_ : IntsAre vs ns) (b : Nat) : (slicePick vs.toArray none (some (b : Int)) none).toList.length ≤ b := by
  rw [slicePick_upto']; simp; omega
/-- an int, whatever the way -/
def IsV (V : Int) (s : Shared) (v : Value) (s' : Shared) : Prop := ∃ t' tk', v = .int V t' ∧ s' = { s with toks := tk' }
theorem r_join1 {M : Model} {e : Sem Value} (V : Int) (h1 : wpAny M A e (IsV V s) E s) (h2 : ∀ t' tk', Q (.int V t') { s with toks := tk' }) : wpAny M A e Q E s :=
  wpAny_mono h1 (fun v s' h => by obtain ⟨t', tk', rfl, rfl⟩ := h; exact h2 t' tk') fun _ _ e => e
theorem isV {V W : Int} {t' : Tok} {tk' : Nat} (e : W = V) : IsV V s (.int W t') { s with toks := tk' } := ⟨_, _, by rw [e], rfl⟩
theorem r_pow88 (h : ∀ t' tk', Q (.int 4294967296 t') { s with toks := tk' }) : wpAny (model prog w) A (binaryOp .Pow (.int 16 t) (.int 8 u)) Q E s :=
  r_pow (by decide) (by decide) (by decide) h
theorem ints_at {vs : List Value} {ns : List Int} (h : IntsAre vs ns) {i : Nat} {v : Value} (e : vs[i]? = some v) : ∃ a t, v = .int a t ∧ ns[i]? = some a := by
  have hi := (List.getElem?_eq_some_iff.mp e).1
  rw [h.length] at hi
  obtain ⟨t, ht⟩ := h.get i ns[i] (List.getElem?_eq_getElem hi)
  rw [e] at ht
  exact ⟨_, t, by injection ht, List.getElem?_eq_getElem hi⟩
theorem srcInts {ax : Addr} {vs : List Value} {ns : List Int} (hh : A.handled = none) (hl : s.heap.IsList ax vs.toArray) (hi : IntsAre vs ns) : Src prog w A IsI ns (.ref ax) s :=
  srcList hh hl (by simp [hi.length]) fun i v e => by
    obtain ⟨a, t, rfl, ha⟩ := ints_at hi (by simpa using e)
    exact ⟨a, ha, t, rfl⟩
theorem r_addInts {l b : Addr} {vs ws : List Value} {ns ms : List Int} {c d : Nat} (F : Fr h₀ L s.heap m) (N : News h₀ L s.heap news) (hl : (l, ({ cls := .type "list", data := .seq vs.toArray c } : Obj)) ∈ news) (hb : (b, ({ cls := .type "list", data := .seq ws.toArray d } : Obj)) ∈ news)
    (hi : IntsAre vs ns) (hj : IntsAre ws ms) (hz : ns.length + ms.length ≤ 1000000)
    (h : ∀ D h', Fr h₀ L h' m → News h₀ L h' ((D, { cls := .type "list", data := .seq (vs ++ ws).toArray 0 }) :: news) → IntsAre (vs ++ ws) (ns ++ ms) → Q (.ref D) { s with heap := h' }) :
    wpAny (model prog w) A (binaryOp .Add (.ref l) (.ref b)) Q E s :=
  add_lists_ints (hsz := fits6 hz) F N (isl (N _ hl).1) (isl (N _ hb).1) hi hj fun h' F' N' hI => h _ h' F' N' hI
theorem r_addTxts {l b : Addr} {vs ws : List Value} {ls ks : List (List Nat)} {c d : Nat} (F : Fr h₀ L s.heap m) (N : News h₀ L s.heap news) (hl : (l, ({ cls := .type "list", data := .seq vs.toArray c } : Obj)) ∈ news) (hb : (b, ({ cls := .type "list", data := .seq ws.toArray d } : Obj)) ∈ news)
    (hi : TxtsAre vs ls) (hj : TxtsAre ws ks) (hz : ls.length + ks.length ≤ 1000000)
    (h : ∀ D h', Fr h₀ L h' m → News h₀ L h' ((D, { cls := .type "list", data := .seq (vs ++ ws).toArray 0 }) :: news) → TxtsAre (vs ++ ws) (ls ++ ks) → Q (.ref D) { s with heap := h' }) :
    wpAny (model prog w) A (binaryOp .Add (.ref l) (.ref b)) Q E s :=
  add_arrays F N (isl (N _ hl).1) (isl (N _ hb).1) (fun h' F' N' => h _ h' F' N' (hi.app hj)) (by have := hi.len; have := hj.len; simp; exact fits6 (by omega))
theorem news3 {h : Heap} {a b c : Addr × Obj} (N : News h₀ L h news) (ha : a ∈ news) (hb : b ∈ news) (hc : c ∈ news) : News h₀ L h [a, b, c] := fun q hq => by
  rcases List.mem_cons.mp hq with rfl | hq
  · exact N _ ha
  · rcases List.mem_cons.mp hq with rfl | hq
    · exact N _ hb
    · rw [List.mem_singleton.mp hq]; exact N _ hc
/-- all ints -/
theorem ints_of {n : Nat} : ∀ {ys : List Value}, ys.length = n → (∀ (i : Nat) (z : Value), ys[i]? = some z → ∃ a, IsI a z) → ∃ ms : List Int, IntsAre ys ms ∧ ms.length = n := by
  intro ys
  induction ys generalizing n with
  | nil => intro e _; exact ⟨[], .nil, e⟩
  | cons y ys ih =>
    intro e h
    obtain ⟨a, t, rfl⟩ := h 0 y rfl
    obtain ⟨ms, hm, hl⟩ := ih (n := ys.length) rfl fun i z hz => h (i + 1) z (by simpa using hz)
    exact ⟨a :: ms, .cons _ _ hm, by rw [List.length_cons, hl, ← e, List.length_cons]⟩
end
end Mine

end PartMLaw
section PartF1b
open PySem PySem.W PySem.Calls PyProof.Rows
set_option maxRecDepth 100000
set_option maxHeartbeats 4000000
set_option pp.deepTerms false
set_option pp.deepTerms.threshold 8
namespace Mine
theorem fill01 : PySem.Challenge.rw_rl0024_02.wellSaid = true ∧ hd.heap_39 = hd.heap_39 → True := by
  k_fill
  exact fun _ => trivial
def okT (l : List Nat) : Prop := ∀ c ∈ l, c < 128 ∧ ¬ (48 ≤ c ∧ c ≤ 57)
theorem okT.asc {l : List Nat} (h : okT l) : ∀ c ∈ l, c < 128 := fun c hc => (h c hc).1
theorem okT.nd {l : List Nat} (h : okT l) : noDigit (S l) := S_noDigit fun c hc => (h c hc).2
theorem okT.low {l : List Nat} (h : okT l) : okT (l.map lo1) := by
  intro c hc
  obtain ⟨d, hd, rfl⟩ := List.mem_map.mp hc
  have := h d hd
  unfold lo1
  split <;> omega
theorem lenLow {l : List Nat} (h : l.length ≤ 1000000) : (l.map lo1).length ≤ 1000000 := by rw [List.length_map]; exact h
local macro_rules | `(tactic| walk_at "getMethod ref") => `(tactic| (k_here; k_dflt (refine' searchMeth_K ?F ?X ?l ?_; (case F => k_asm); (case X => k_asm); (case l => k_is))))
local macro_rules | `(tactic| walk_at "call builtin:re.Pattern.search") => `(tactic| (k_here; k_dflt (refine' search_K ?F ?X ?l ?c ?i ?d ?z ?_; (case F => k_asm); (case X => k_asm); (case l => k_is); (case c => k_is); (case i => decide +kernel); (case d => exact okT.nd (by assumption)); (case z => (simp only [S, List.size_toArray]; omega)))))
local macro_rules | `(tactic| walk_at "eval Constant str") => `(tactic| ((first | with_reducible refine r_const sDot ?_ | with_reducible refine r_const sNil ?_ | with_reducible refine r_const sLocal ?_); intro _ _; (try dsimp only)))
local macro_rules | `(tactic| walk_at "call builtin:str.lower") => `(tactic| (k_here; (refine r_lower (okT.asc (by assumption)) (by assumption) ?_; intro _ _; (try dsimp only))))
local macro_rules | `(tactic| walk_at "call builtin:str.startswith") => `(tactic| (k_here; k_dflt (refine r_starts ?_)))
local macro_rules | `(tactic| walk_at "call builtin:str.endswith") => `(tactic| (k_here; k_dflt (refine r_ends ?_)))
local macro_rules | `(tactic| walk_at "compareOp Eq str str") => `(tactic| (k_here; k_dflt (refine r_eq ?_)))
section
variable {prog : Program} {w : World} {dp un : Nat} {gd : Option (List Code)} {s : Shared} {base : Heap} {fr : List Env} {p : Program} {loose : List Str} {mean : ExcName → Option Value} {mg mb : Str → Option Value} {Q E : Value → Shared → Prop}

theorem libHDN {l : List Nat} {t : Tok} (M : Amb (hd.heap_39 w.params) p loose mean mg mb (At dp un gd fr) base fr s.heap) (hdp : dp < recursionLimit) (hx : okT l) (hl : l.length ≤ 1000000)
   (h : ∀ h' tk', s.heap.StaysIn h' → Q (.bool true) { s with heap := h', toks := tk' }) : wpAny (model prog w) (At dp un gd fr) (call (.ref 50) [.str (S l) t]) Q E s := by
  refine wpAny_call ?_
  k_dflt (refine' callP (binds := [(Str.ofString "text", Value.str (S l) t)]) M ?k6 ?k7 ?k8 ?k9 ?kB ?_ ?c2 ?c3 ?c4 ?c5; (case k6 => k_is); (case k7 => k_is); (case k8 => exact hdp); (case k9 => exact BindsTo.of_eq rfl); (case c5 => decide); (case kB => exact locs rfl); (case c2 => exact rfl); (case c3 => exact rfl); (case c4 => exact rfl))
  intro L' h₁ F' N' B' X' T'
  dsimp only
  w_on
  w_strict (k_fold; k_steps; all_goals exact h _ _ (Fr.keep (by assumption)))
end
local macro_rules | `(tactic| walk_at "call ref") => `(tactic| (k_here; (with_reducible show wpAny _ _ (call (Value.ref 50) _) _ _ _); k_dflt (refine' libHDN (ambOf ?B ?F ?X ?T ?hA ?hf ?hk) ?d ?x ?l ?_; (case B => k_asm); (case F => k_asm); (case X => k_asm); (case T => k_asm); (case hA => exact rfl); (case hf => exact rfl); (case hk => exact rfl); (case d => first | ((try dsimp only); omega) | ktr_room); (case x => assumption); (case l => assumption); intro h' tk' st'; (have F' := frStays (by k_asm) st'); (have N' := newsStays (by k_asm) st'); clear st'; (try dsimp only); (try k_sweep))))
section
variable {prog : Program} {w : World} {dp un : Nat} {gd : Option (List Code)} {s : Shared} {base : Heap} {fr : List Env} {p : Program} {loose : List Str} {mean : ExcName → Option Value} {mg mb : Str → Option Value} {Q E : Value → Shared → Prop}
def udmL (l k : List Nat) : Bool := if (k.map lo1).head? == some 46 then (k.map lo1).isSuffixOf (l.map lo1) else decide (l.map lo1 = k.map lo1)
theorem udm {l k : List Nat} {t u : Tok} (M : Amb (hd.heap_39 w.params) p loose mean mg mb (At dp un gd fr) base fr s.heap) (hdp : dp + 1 < recursionLimit) (hx : okT l) (hl : l.length ≤ 1000000) (hy : okT k) (hly : k.length ≤ 1000000)
   (h : ∀ h' tk', s.heap.StaysIn h' → Q (.bool (udmL l k)) { s with heap := h', toks := tk' }) : wpAny (model prog w) (At dp un gd fr) (call (.ref 57) [.str (S l) t, .str (S k) u]) Q E s := by
  have hx' := hx.low
  have hy' := hy.low
  have hl' := lenLow hl
  have hly' := lenLow hly
  refine wpAny_call ?_
  k_dflt (refine' callP (binds := [(Str.ofString "A", Value.str (S l) t), (Str.ofString "B", Value.str (S k) u)]) M ?k6 ?k7 ?k8 ?k9 ?kB ?_ ?c2 ?c3 ?c4 ?c5; (case k6 => k_is); (case k7 => k_is); (case k8 => (show dp < recursionLimit; omega)); (case k9 => exact BindsTo.of_eq rfl); (case c5 => decide); (case kB => exact locs rfl); (case c2 => exact rfl); (case c3 => exact rfl); (case c4 => exact rfl))
  intro L' h₁ F' N' B' X' T'
  dsimp only
  w_on
  w_strict (k_fold; k_steps; all_goals (refine end_bool h ?_ (Fr.keep (by assumption)); simp only [udmL, *, ↓reduceIte, decide_true, decide_false, Bool.false_eq_true]))
end
local macro_rules | `(tactic| walk_at "call ref") => `(tactic| (k_here; (with_reducible show wpAny _ _ (call (Value.ref 57) _) _ _ _); k_dflt (refine' udm (ambOf ?B ?F ?X ?T ?hA ?hf ?hk) ?d ?x ?l ?y ?ly ?_; (case B => k_asm); (case F => k_asm); (case X => k_asm); (case T => k_asm); (case hA => exact rfl); (case hf => exact rfl); (case hk => exact rfl); (case d => first | ((try dsimp only); omega) | ktr_room); (case x => assumption); (case l => assumption); (case y => assumption); (case ly => assumption); intro h' tk' st'; (have F' := frStays (by k_asm) st'); (have N' := newsStays (by k_asm) st'); clear st'; (try dsimp only); (try k_sweep))))
local macro_rules | `(tactic| walk_at "subscriptTail Name Constant str int") => `(tactic| (k_here; (with_reducible show wpAny _ _ (subscriptTail _ _ (Value.str (S (_ :: _)) _) (Value.int 0 _)) _ _ _); k_dflt (refine r_item0 (by assumption) ?_); intro _ _; (try dsimp only)))
local macro_rules | `(tactic| walk_at "subscriptTail Name UnaryOp str int") => `(tactic| (k_here; (with_reducible show wpAny _ _ (subscriptTail _ _ (Value.str (S _) _) (Value.int (-1) _)) _ _ _); k_dflt (refine r_itemL (by assumption) (by assumption) ?_); intro _ _; (try dsimp only)))
section
variable {prog : Program} {w : World} {dp un : Nat} {gd : Option (List Code)} {s : Shared} {base : Heap} {fr : List Env} {p : Program} {loose : List Str} {mean : ExcName → Option Value} {mg mb : Str → Option Value} {Q E : Value → Shared → Prop}
theorem isHDN {c d : Nat} {l : List Nat} {t : Tok} (M : Amb (hd.heap_39 w.params) p loose mean mg mb (At dp un gd fr) base fr s.heap) (hdp : dp < recursionLimit) (hx : okT (c :: l)) (hl : (c :: l).length ≤ 1000000)
   (hc : c ≠ 46) (hd : (c :: l).getLast? = some d) (hd46 : d ≠ 46)
   (h : ∀ h' tk', s.heap.StaysIn h' → Q (.bool true) { s with heap := h', toks := tk' }) : wpAny (model prog w) (At dp un gd fr) (call (.ref 43) [.str (S (c :: l)) t]) Q E s := by
  refine wpAny_call ?_
  k_dflt (refine' callP (binds := [(Str.ofString "text", Value.str (S (c :: l)) t)]) M ?k6 ?k7 ?k8 ?k9 ?kB ?_ ?c2 ?c3 ?c4 ?c5; (case k6 => k_is); (case k7 => k_is); (case k8 => (show dp < recursionLimit; omega)); (case k9 => exact BindsTo.of_eq rfl); (case c5 => decide); (case kB => exact locs rfl); (case c2 => exact rfl); (case c3 => exact rfl); (case c4 => exact rfl))
  intro L' h₁ F' N' B' X' T'
  dsimp only
  w_on
  w_strict (k_fold; k_steps; all_goals first | exact h _ _ (Fr.keep (by assumption)) | (exfalso; simp_all))
end
local macro_rules | `(tactic| walk_at "call ref") => `(tactic| (k_here; (with_reducible show wpAny _ _ (call (Value.ref 43) _) _ _ _); k_dflt (refine' isHDN (ambOf ?B ?F ?X ?T ?hA ?hf ?hk) ?d ?x ?l ?y ?z ?u ?_; (case B => k_asm); (case F => k_asm); (case X => k_asm); (case T => k_asm); (case hA => exact rfl); (case hf => exact rfl); (case hk => exact rfl); (case d => first | ((try dsimp only); omega) | ktr_room); (case x => assumption); (case l => assumption); (case y => assumption); (case z => assumption); (case u => assumption); intro h' tk' st'; (have F' := frStays (by k_asm) st'); (have N' := newsStays (by k_asm) st'); clear st'; (try dsimp only); (try k_sweep))))
theorem findDot_facts (l : List Nat) : -1 ≤ findDot l ∧ findDot l + 1 ≤ l.length := by
  unfold findDot
  split
  · rename_i h
    have := List.idxOf_lt_length_of_mem h
    omega
  · omega
def loc5 : List Nat := [108, 111, 99, 97, 108]
/-- what reach gives back -/
def reachL (l : List Nat) : List Nat :=
  if 46 ∈ l then (let b := l.drop (l.idxOf 46 + 1); if 46 ∈ b ∨ b = loc5 then 46 :: b else l) else l
theorem findDot_pos {l : List Nat} : 0 ≤ findDot l ↔ 46 ∈ l := by
  unfold findDot
  split
  · rename_i h; exact ⟨fun _ => h, fun _ => by omega⟩
  · rename_i h; exact ⟨fun hh => by omega, fun hh => absurd hh h⟩
theorem findDot_at {l : List Nat} (h : 46 ∈ l) : (findDot l + 1).toNat = l.idxOf 46 + 1 := by
  unfold findDot
  rw [if_pos h]
  omega
theorem reach_yes {l : List Nat} (h : 0 ≤ findDot l) (hb : 0 ≤ findDot (l.drop (findDot l + 1).toNat) ∨ l.drop (findDot l + 1).toNat = loc5) : [46] ++ l.drop (findDot l + 1).toNat = reachL l := by
  have hm := findDot_pos.mp h
  rw [findDot_at hm] at hb ⊢
  unfold reachL
  rw [if_pos hm]
  dsimp only
  rw [if_pos (hb.imp findDot_pos.mp id)]
  rfl
theorem reach_no {l : List Nat} (hb : 0 ≤ findDot l → ¬ 0 ≤ findDot (l.drop (findDot l + 1).toNat) ∧ l.drop (findDot l + 1).toNat ≠ loc5) : l = reachL l := by
  unfold reachL
  split
  · rename_i hm
    have := hb (findDot_pos.mpr hm)
    rw [findDot_at hm] at this
    dsimp only
    rw [if_neg]
    rintro (q | q)
    · exact this.1 (findDot_pos.mpr q)
    · exact this.2 q
  · rfl
local macro_rules | `(tactic| walk_at "call builtin:str.find") => `(tactic| (k_here; k_dflt (refine r_find ?_); intro _ _; (try dsimp only)))
local macro_rules | `(tactic| walk_at "binaryOp Add str str") => `(tactic| (k_here; k_dflt (refine r_add (by (simp only [List.length_append, List.length_drop, List.length_cons, List.length_nil] at *); omega) ?_); intro _ _; (try dsimp only)))
local macro_rules | `(tactic| walk_at "subscriptTail") => `(tactic| (k_here; (with_reducible show wpAny _ _ (subscriptTail _ (Expr.Slice (some _) none none _) (Value.str (S _) _) (Value.ref _)) _ _ _); k_dflt (refine' r_from (s := ⟨_, _, _, _, _⟩) ?F ?N ?a ?b ?z ?_; (case F => k_asm); (case N => k_asm); (case a => omega); (case b => omega); (case z => omega); intro h' t' tk' F' N'; (try dsimp only); (try k_sweep))))
section
variable {prog : Program} {w : World} {dp un : Nat} {gd : Option (List Code)} {s : Shared} {base : Heap} {fr : List Env} {p : Program} {loose : List Str} {mean : ExcName → Option Value} {mg mb : Str → Option Value} {Q E : Value → Shared → Prop}
theorem reach_ok {c d : Nat} {l : List Nat} {t : Tok} (M : Amb (hd.heap_39 w.params) p loose mean mg mb (At dp un gd fr) base fr s.heap) (hdp : dp + 1 < recursionLimit) (hx : okT (c :: l)) (hl : (c :: l).length ≤ 1000000)
   (hc : c ≠ 46) (hd : (c :: l).getLast? = some d) (hd46 : d ≠ 46)
   (h : ∀ h' t' tk', s.heap.StaysIn h' → Q (.str (S (reachL (c :: l))) t') { s with heap := h', toks := tk' }) : wpAny (model prog w) (At dp un gd fr) (call (.ref 64) [.str (S (c :: l)) t]) Q E s := by
  have hf := findDot_facts (c :: l)
  refine wpAny_call ?_
  k_dflt (refine' callP (binds := [(Str.ofString "h", Value.str (S (c :: l)) t)]) M ?k6 ?k7 ?k8 ?k9 ?kB ?_ ?c2 ?c3 ?c4 ?c5; (case k6 => k_is); (case k7 => k_is); (case k8 => (show dp < recursionLimit; omega)); (case k9 => exact BindsTo.of_eq rfl); (case c5 => decide); (case kB => exact locs rfl); (case c2 => exact rfl); (case c3 => exact rfl); (case c4 => exact rfl))
  intro L' h₁ F' N' B' X' T'
  dsimp only
  w_on
  w_strict (k_fold; k_steps; all_goals (refine end_str h ?_ (Fr.keep (by assumption)); first
    | exact reach_yes (by assumption) (.inl (by assumption)) | exact reach_yes (by assumption) (.inr (by assumption))
    | exact reach_no (fun _ => ⟨by assumption, by assumption⟩) | exact reach_no (fun q => absurd q (by assumption))))
end
end Mine

end PartF1b
section PartF2b
open PySem PySem.W PySem.Calls PyProof.Rows
set_option maxRecDepth 100000
set_option maxHeartbeats 4000000
set_option pp.deepTerms false
set_option pp.deepTerms.threshold 8
namespace Mine
local macro_rules | `(tactic| walk_at "zz none") => `(tactic| fail "none")
local macro_rules | `(tactic| walk_at "zz none") => `(tactic| fail "none")
local macro_rules | `(tactic| walk_at "zz none") => `(tactic| fail "none")
local macro_rules | `(tactic| walk_at "zz none") => `(tactic| fail "none")
local macro_rules | `(tactic| walk_at "zz none") => `(tactic| fail "none")
local macro_rules | `(tactic| walk_at "zz none") => `(tactic| fail "none")
local macro_rules | `(tactic| walk_at "zz none") => `(tactic| fail "none")
local macro_rules | `(tactic| walk_at "zz none") => `(tactic| fail "none")
local macro_rules | `(tactic| walk_at "zz none") => `(tactic| fail "none")
local macro_rules | `(tactic| walk_at "zz none") => `(tactic| fail "none")
local macro_rules | `(tactic| walk_at "zz none") => `(tactic| fail "none")
local macro_rules | `(tactic| walk_at "zz none") => `(tactic| fail "none")
local macro_rules | `(tactic| walk_at "zz none") => `(tactic| fail "none")
local macro_rules | `(tactic| walk_at "zz none") => `(tactic| fail "none")
local macro_rules | `(tactic| walk_at "zz none") => `(tactic| fail "none")
theorem fill01' : PySem.Challenge.rw_rl0024_02.wellSaid = true ∧ hd.heap_39 = hd.heap_39 → True := by
  k_fill
  exact fun _ => trivial
local macro_rules | `(tactic| walk_at "eval Name") => `(tactic| (k_here; k_dflt (refine' ld ?k1 ?k2 ?_; (case k1 => k_asm); (case k2 => assumption); k_whole)))
local macro_rules | `(tactic| walk_at "exec While Name cons nil") => `(tactic| refine Stop.mk ?_)
local macro_rules | `(tactic| walk_at "subscriptTail Name Slice some some bytes ref") => `(tactic| (k_here; k_dflt (refine' r_ap (s := ⟨_, _, _, _, _⟩) ?F ?N ?_; (case F => k_asm); (case N => k_asm); intro h' t' tk' F' N'; (try dsimp only); (try k_sweep))))
local macro_rules | `(tactic| walk_at "subscriptTail") => `(tactic| (k_here; k_dflt (refine' r_ap (s := ⟨_, _, _, _, _⟩) ?F ?N ?_; (case F => k_asm); (case N => k_asm); intro h' t' tk' F' N'; (try dsimp only); (try k_sweep))))
local macro_rules | `(tactic| walk_at "binaryOp Add bytes bytes") => `(tactic| (k_here; k_dflt (refine r_addB (by assumption) ?_); intro _ _; (try dsimp only)))
section
variable {prog : Program} {w : World} {dp un : Nat} {gd : Option (List Code)} {s : Shared} {base : Heap} {fr : List Env} {p : Program} {loose : List Str} {mean : ExcName → Option Value} {mg mb : Str → Option Value} {Q E : Value → Shared → Prop}
def JInt (N : Nat) (n : Nat) (m : Str → Option Value) (news : List (Addr × Obj)) : Prop :=
  ∃ (l : List Nat) (t1 t2 t3 : Tok), digs n ++ l = digs N ∧ news = [] ∧ m (Str.ofString "num") = some (.int n t1) ∧ m (Str.ofString "val") = some (.bytes (apB l) t2) ∧ m (Str.ofString "AP") = some (.bytes AP t3)
theorem int2ap {i : Int} {t : Tok} (M : Amb (hd.heap_39 w.params) p loose mean mg mb (At dp un gd fr) base fr s.heap) (hdp : dp < recursionLimit) (hi : (digs i.natAbs).length ≤ 1000)
   (h : ∀ h' t' tk', s.heap.StaysIn h' → Q (.bytes (apB (digs i.natAbs)) t') { s with heap := h', toks := tk' }) : wpAny (model prog w) (At dp un gd fr) (call (.ref 71) [.int i t]) Q E s := by
  refine wpAny_call ?_
  k_dflt (refine' callP (binds := [(Str.ofString "num", Value.int i t)]) M ?k6 ?k7 ?k8 ?k9 ?kB ?_ ?c2 ?c3 ?c4 ?c5; (case k6 => k_is); (case k7 => k_is); (case k8 => (show dp < recursionLimit; omega)); (case k9 => exact BindsTo.of_eq rfl); (case c5 => decide); (case kB => exact locs rfl); (case c2 => exact rfl); (case c3 => exact rfl); (case c4 => exact rfl))
  intro L' h₁ F' N' B' X' T'
  dsimp only
  w_on
  w_strict (k_fold; k_steps)
  refine While_inv2 (JInt i.natAbs) (n₀ := i.natAbs) (by assumption) (by assumption) ?_ ?_ (fun _ _ x => x.elim)
  · have e : (if i < 0 then -i else i) = (i.natAbs : Int) := by split <;> omega
    exact ⟨[], _, _, _, List.append_nil _, rfl, congrArg (fun x => some (Value.int x _)) e, rfl, rfl⟩
  · rintro n m₁ news₁ h₁ tk₁ F₁ N₁ ⟨l, t1, t2, t3, e, rfl, e1, e2, e3⟩
    have hz : [n % 16].length + l.length ≤ 1000000 := by
      have := congrArg List.length e
      simp only [List.length_append] at this
      rw [List.length_singleton]
      omega
    w_strict (k_steps)
    · have hn : n ≠ 0 := by omega
      rename Fr _ _ _ _ => F9
      refine ⟨_, _, _, [], n / 16, rfl, F9, News.nil, by omega, n % 16 :: l, _, _, _, ?_, rfl, congrArg (fun x => some (Value.int x _)) (fdiv16 n), rfl, e3⟩
      rw [← e, digs_pos hn]
      simp
    · have hn : n = 0 := by omega
      subst hn
      rw [digs_zero, List.nil_append] at e
      exact end_bytes h (by rw [e]) F₁.keep
end
end Mine

end PartF2b
section PartM2
open PySem PySem.W PySem.Calls PyProof.Rows
set_option maxRecDepth 100000
namespace Mine
theorem newsOf {h : Heap} {L : Addr} {m : Str → Option Value} {h₀ h' : Heap} {news : List (Addr × Obj)} {D : Addr} {o : Obj} (F : Fr h₀ L h m) (N : News h₀ L h news) (st : h.StaysIn h') (hD : h.get? D = none) (ho : h'.get? D = some o) : News h₀ L h' ((D, o) :: news) := by
  intro q hq
  rcases List.mem_cons.mp hq with rfl | hq
  · refine ⟨ho, ?_, ?_⟩
    · rintro rfl
      obtain ⟨oL, _, _, hL, _⟩ := F.ns
      rw [hD] at hL; cases hL
    · cases e : h₀.get? D with
      | none => rfl
      | some o' => rw [F.keep D o' e] at hD; cases hD
  · exact newsStays N st q hq
theorem offOf {h : Heap} {L : Addr} {h₀ : Heap} {news : List (Addr × Obj)} {D : Addr} (N : News h₀ L h news) (hD : h.get? D = none) : ∀ q ∈ news, q.1 ≠ D := fun q hq e => by
  have := (N q hq).1
  rw [e, hD] at this; cases this
theorem pick_butLast (vs : List Value) : (slicePick vs.toArray none (some (-1)) none).toList = vs.take (vs.length - 1) := by
  rw [show (-1 : Int) = -((1 : Nat) : Int) from rfl, slicePick_butLast _ 1 (by decide)]
  simp
theorem bool_at {bs : List Bool} {i : Nat} (h : i < bs.length) : (bs.map Value.bool)[i]? = some (.bool (bs.getD i false)) := by
  simp [List.getD, h]
end Mine

end PartM2
section PartMSetS
open PySem PySem.W PySem.Calls PyProof.Rows
set_option maxRecDepth 100000
namespace Mine
section
variable {prog : Program} {w : World}
/-- a set that holds nothing, or the one text x -/
def OneSet (prog : Program) (w : World) (h : Heap) (D : Addr) (x : Str) (i : Nat) : Prop := h.SetOf (strKind prog w) D (fun y => decide (0 < i) && decide (y = x)) (min i 1)
theorem oneSet_keep {h h' : Heap} {D : Addr} {x : Str} {i : Nat} (hS : OneSet prog w h D x i) (hk : ∀ o, h.get? D = some o → h'.get? D = some o) : OneSet prog w h' D x i := by
  obtain ⟨o, es, ep, t, ho, r⟩ := hS
  exact ⟨o, es, ep, t, hk o ho, r⟩
variable {A : Around} {R : Result → Shared → Prop} {I : Addr} {fp wr : List Addr} {G : Array GenState → Array GenState → Prop} {n : Nat} {P : Nat → Value → Prop} {St : Nat → Shared → Prop}
theorem oneSet_loop (W : WalksS prog w A.in1 I fp wr G n P St) (D : Addr) (hD : D ∉ fp) (x : Str) (hval : ∀ i v, P i v → ∃ t, v = .str x t) (d : Nat) :
    ∀ (i : Nat) (s : Shared), i + d = n → St i s → OneSet prog w s.heap D x i → (∀ s', Moved (D :: wr) G s s' → OneSet prog w s'.heap D x n → R (.ok (.ret .none)) s') →
      codeAny (model prog w) A (.builtin "set.update.loop" ⟨[.ref D, .ref I], []⟩) R s := by
  have hDw : D ∉ wr := fun q => hD (W.sub _ q)
  induction d with
  | zero =>
    intro i s e hst hS hR
    obtain rfl : i = n := e
    refine codeAny_builtin F.entry_set_update_loop ?_
    rw [Around.under_plainId F.plain_set_update_loop _]
    show wpAny _ A.in1 (pyNext (.ref I) >>= _) _ _ s
    refine wpAny_bind (W.done s _ _ hst fun s' hm => ?_)
    show wpAny _ A.in1 (ret Value.none) _ _ s'
    exact wpAny_pure (hR s' (hm.mono fun b hb => .tail _ hb) (oneSet_keep hS fun o q => hm.heap D o hDw q))
  | succ d ih =>
    intro i s e hst hS hR
    refine codeAny_builtin F.entry_set_update_loop ?_
    rw [Around.under_plainId F.plain_set_update_loop _]
    show wpAny _ A.in1 (pyNext (.ref I) >>= _) _ _ s
    refine wpAny_bind (W.item i s _ _ (by omega) hst fun v s' hP hst' hm => ?_)
    obtain ⟨t, rfl⟩ := hval i v hP
    have hS' := oneSet_keep hS fun o q => hm.heap D o hDw q
    show wpAny _ A.in1 (holding [Value.str x t] (setAdd D (.str x t)) >>= _) _ _ s'
    refine wpAny_bind (wpAny_holding ?_)
    unfold setAdd
    refine wpAny_holding (wpAny_bind ((strKind prog w).pyHash (k := x) (strKind_is _ _ _ _) ?_))
    refine wpAny_setAddHashed_of (knd := strKind prog w) (s := { s' with toks := s'.toks + 1 }) (strKind_is _ _ _ _) rfl hS' (by unfold scanBound; omega) fun h' hsb hS2 => ?_
    have hS3 : OneSet prog w h' D x (i + 1) := by
      refine SetOf_congr hS2 (fun k => ?_) ?_
      · by_cases h0 : 0 < i
        · simp [h0]
        · simp [h0]
      · by_cases h0 : 0 < i
        · simp [h0]; omega
        · simp [h0]; omega
    refine wpAny_pure ⟨plainId_quiet F.plain_set_update_loop _, ih (i + 1) _ (by omega) (W.frame _ s' _ _ hst' (Nat.le_succ _) fun b hb o q => ?_) hS3 fun s'' hm2 hS4 => hR s'' (Moved.trans W.gtrans ((hm.mono fun b hb => .tail _ hb).then_heap (Nat.le_succ _) fun b o hb q => ?_) hm2) hS4⟩
    · rw [hsb.2 b (fun q2 : b = D => hD (q2 ▸ hb))]; exact q
    · rw [hsb.2 b (fun q2 : b = D => hb (q2 ▸ .head _))]; exact q
end
section
variable {prog : Program} {w : World} {A : Around} {s : Shared} {E : Value → Shared → Prop} {Q : Value → Shared → Prop} {h₀ : Heap} {L : Addr} {m : Str → Option Value} {news : List (Addr × Obj)}
abbrev freshSet (led : Bool) : Obj := { cls := .type "set", dict := none, data := .set #[] 0 (.fresh 0 0 led) }
set_option maxHeartbeats 3200000 in
theorem oneSet_call {l : Addr} {items : Array Value} {x : Str} (hh : A.handled = none) (hl : s.heap.IsList l items) (hx : ∀ (i : Nat) (v : Value), items[i]? = some v → ∃ t, v = .str x t)
    (h : ∀ (h' : Heap) (tk : Nat), OneSet prog w h' s.heap.objs.size x items.size → s.heap.StaysIn h' → Q (.ref s.heap.objs.size) { s with heap := h', toks := tk }) :
    wpAny (model prog w) A (call (.type "set") [.ref l]) Q E s := by
  obtain ⟨c, tl, hmro⟩ := F.called_set.mro
  have hmade := F.called_set.made
  have hsub := F.called_set.sub
  refine wpAny_call (codeAny_of_tree ?_)
  show wpAny _ _ (callAny (.type "set") _) _ _ _
  refine wpAny_pure ⟨Code.quiet_builtin _ (by decide +kernel), codeAny_builtin F.entry_type_call ?_⟩
  rw [Around.under_plain (weight_type_call_type "set" [.ref l] []) rfl]
  have h1 := F.called_set.notType
  have h2 := F.called_set.canCreate
  have hct := F.typeCall_set_1 (.ref l)
  repeat (any_goals (first | assumption | wp_step))
  refine codeAny_mono (code_set_new_1 (.ref l) (E := E) (Q₁ := fun obj s₁ => ∃ led : Bool, obj = .ref s.heap.objs.size ∧ s₁ = { s with heap := s.heap.push (freshSet led) }) fun led => ⟨led, rfl, rfl⟩) fun r s₁ hr => ?_
  match r, hr with
  | .error e, hr => exact hr
  | .ok (.ret obj), hr =>
    obtain ⟨led, rfl, rfl⟩ := hr
    generalize hDe : s.heap.objs.size = D at *
    have hS : (s.heap.push (freshSet led)).get? D = some (freshSet led) := hDe ▸ Heap.get?_push_size _ rfl
    have hT : Shared.TypeIs { s with heap := s.heap.push (freshSet led) } (.ref D) "set" := ⟨_, hS, rfl⟩
    have hli := F.called_set.init.lookup
    have hbi := F.called_set.init.bind (.ref D)
    repeat (any_goals (first | assumption | wp_step))
    refine codeAny_mono (codeAny_call_builtin (R := wants (fun r s₂ => r = .none ∧ ∃ h' tk, s₂ = { s with heap := h', toks := tk } ∧ OneSet prog w h' D x items.size ∧ s.heap.StaysIn h') E) F.called_set.init.plain F.entry_set_init (check_set_init_1 hT ?_)) fun r₂ s₂ hr₂ => ?_
    · have hl0 := hl
      obtain ⟨ol, hol, hcl, nl, hdl⟩ := hl
      obtain ⟨ocls, odict, odata, oslots⟩ := ol
      simp only at hcl hdl
      subst hcl; subst hdl
      have hol' : (s.heap.push (freshSet led)).get? l = some { cls := .type "list", dict := odict, data := .seq items nl, slots := oslots } := Heap.get?_push_of_some _ hol
      have hsls := F.sub_list_set
      have hslf := F.sub_list_frozenset
      have hne : (Value.type "list" == Value.type "dict") = false := by decide
      have hl1 : (s.heap.push (freshSet led)).IsList l items := ⟨_, hol', rfl, nl, rfl⟩
      unfold Builtin.«set.__init__» noKeywords Builtin.Frozenset.updateFrom
      generalize hPI : pyIter = PI
      wp_walk
      subst hPI
      refine wpAny_pyIter_list hl1 (wpAny_bind (wpAny_runValue ?_))
      have hsz : (s.heap.push (freshSet led)).objs.size = D + 1 := by rw [Heap.size_push, hDe]
      have hlS : @LT.lt Nat _ l D := hDe ▸ Heap.lt_size hol
      have hh3 : A.in1.in1.in1.handled = none := by simp [hh]
      rw [hsz]
      have hneI : l ≠ D + 1 := Nat.ne_of_lt (Nat.lt_succ_of_lt hlS)
      have hDf : D ∉ [D + 1, l] := by
        intro q
        rcases List.mem_cons.mp q with q | q
        · exact Nat.ne_of_lt (Nat.lt_succ_self D) q
        · exact Nat.ne_of_gt hlS (List.mem_singleton.mp q)
      refine oneSet_loop (Walks.list hh3 (D + 1) l hneI items).toS D hDf x hx items.size 0 _ (Nat.zero_add _) ⟨⟨_, hsz ▸ Heap.get?_push_size _ rfl, rfl, rfl⟩, hl1.push _⟩ ?_ ?_
      · exact SetOf_congr ((setObjOf_fresh (knd := strKind prog w) led).setOf (Heap.get?_push_of_some _ hS) (by unfold scanBound; omega)) (fun k => by simp) (by simp)
      · intro s' hm hS'
        obtain ⟨h', g', d', tk', os'⟩ := s'
        obtain rfl : g' = s.gens := hm.gens
        obtain rfl : d' = s.drawn := hm.drawn
        obtain rfl : os' = s.os := hm.os
        show wpAny _ _ _ _ _ _
        refine wpAny_pure ?_
        show wpAny _ _ (ret Value.none) _ _ _
        refine wpAny_pure ⟨rfl, h', tk', rfl, hS', fun b o e => ?_⟩
        have hb : @LT.lt Nat _ b D := hDe ▸ Heap.lt_size e
        refine hm.heap b o (fun q => ?_) (Heap.get?_push_of_some _ (Heap.get?_push_of_some _ e))
        rcases List.mem_cons.mp q with q | q
        · exact Nat.ne_of_lt hb q
        · exact Nat.ne_of_lt (Nat.lt_succ_of_lt hb) (List.mem_singleton.mp q)
    · match r₂, hr₂ with
      | .error e, hr₂ => exact hr₂
      | .ok (.ret r), hr₂ =>
        obtain ⟨rfl, h', tk, rfl, hS', hk'⟩ := hr₂
        repeat (any_goals (first | assumption | wp_step))
        exact h _ _ hS' hk'
theorem r_lenOne {D : Addr} {x : Str} {n : Nat} (hS : OneSet prog w s.heap D x n) (h : ∀ t' tk', Q (.int ((min n 1 : Nat) : Int) t') { s with toks := tk' }) : wpAny (model prog w) A (call (.builtin "len") [.ref D]) Q E s := by
  obtain ⟨o, es, ep, t, ho, hex, hd, hel, hmem, hb, hf, hn⟩ := hS
  refine call_len_set ho hex hd hf (by omega) ?_
  rw [hn]; exact h _ _
end
end Mine

end PartMSetS
section PartQ1
open PySem PySem.W PySem.Calls PyProof.Rows
namespace Mine
/-- a number's host -/
def host2 (n : Nat) : List Nat := if h : n = 0 then loc5 else (65 + n % 16) :: 46 :: host2 (n / 16)
termination_by n
decreasing_by omega
theorem host2_zero : host2 0 = loc5 := by unfold host2; simp
theorem host2_pos {n : Nat} (h : n ≠ 0) : host2 n = (65 + n % 16) :: 46 :: host2 (n / 16) := by rw [host2]; simp [h]
def labs2 (n : Nat) : List (List Nat) := (digs n).reverse.map (fun d => [65 + d]) ++ [loc5]
theorem labs2_zero : labs2 0 = [loc5] := by unfold labs2; rw [digs_zero]; rfl
theorem labs2_pos {n : Nat} (h : n ≠ 0) : labs2 n = [65 + n % 16] :: labs2 (n / 16) := by
  unfold labs2
  rw [digs_pos h, List.reverse_append]
  rfl
theorem labs2_ne (n : Nat) : labs2 n ≠ [] := by unfold labs2; simp
theorem join_labs2 (n : Nat) : joinD (labs2 n) = host2 n := by
  induction n using Nat.strongRecOn with
  | ind n ih =>
    by_cases h : n = 0
    · subst h; rw [labs2_zero, host2_zero]; rfl
    · rw [labs2_pos h, host2_pos h, joinD_cons _ (labs2_ne _), ih (n / 16) (by omega)]
      rfl
theorem host2_okT (n : Nat) : okT (host2 n) := by
  induction n using Nat.strongRecOn with
  | ind n ih =>
    by_cases h : n = 0
    · subst h; rw [host2_zero]
      have : ∀ c ∈ loc5, c < 128 ∧ ¬ (48 ≤ c ∧ c ≤ 57) := by decide
      exact this
    · rw [host2_pos h]
      intro c hc
      rcases List.mem_cons.mp hc with rfl | hc
      · omega
      rcases List.mem_cons.mp hc with rfl | hc
      · decide
      · exact ih (n / 16) (by omega) c hc
theorem host2_len (n : Nat) : (host2 n).length = 2 * (digs n).length + 5 := by
  induction n using Nat.strongRecOn with
  | ind n ih =>
    by_cases h : n = 0
    · subst h; rw [host2_zero, digs_zero]; rfl
    · rw [host2_pos h, digs_pos h, List.length_cons, List.length_cons, ih (n / 16) (by omega), List.length_append, List.length_singleton]
      omega
theorem host2_head (n : Nat) : ∃ c r, host2 n = c :: r ∧ c ≠ 46 := by
  by_cases h : n = 0
  · subst h; rw [host2_zero]; exact ⟨108, _, rfl, by decide⟩
  · rw [host2_pos h]; exact ⟨_, _, rfl, by omega⟩
theorem host2_last (n : Nat) : (host2 n).getLast? = some 108 := by
  induction n using Nat.strongRecOn with
  | ind n ih =>
    by_cases h : n = 0
    · subst h; rw [host2_zero]; rfl
    · have := ih (n / 16) (by omega)
      obtain ⟨c, r, e, _⟩ := host2_head (n / 16)
      rw [host2_pos h]
      rw [e] at this ⊢
      rw [List.getLast?_cons_cons, List.getLast?_cons_cons]
      exact this
theorem host2_dot {n : Nat} : 46 ∈ host2 n ↔ n ≠ 0 := by
  constructor
  · rintro h rfl
    rw [host2_zero] at h
    have : ¬ 46 ∈ loc5 := by decide
    exact this h
  · intro h; rw [host2_pos h]; simp
theorem host2_loc {n : Nat} : host2 n = loc5 ↔ n = 0 := by
  constructor
  · intro h
    refine Classical.byContradiction fun h0 => ?_
    have := host2_dot.mpr h0
    rw [h] at this
    have q : ¬ 46 ∈ loc5 := by decide
    exact q this
  · rintro rfl; exact host2_zero
theorem reach2_pos {n : Nat} (h : n ≠ 0) : reachL (host2 n) = 46 :: host2 (n / 16) := by
  unfold reachL
  rw [if_pos (host2_dot.mpr h), host2_pos h]
  have e : ((65 + n % 16) :: 46 :: host2 (n / 16)).idxOf 46 = 1 := by
    rw [List.idxOf_cons, List.idxOf_cons]
    have : ((65 + n % 16) == 46) = false := beq_eq_false_iff_ne.mpr (by omega)
    rw [this]
    simp
  rw [e]
  show (if 46 ∈ host2 (n / 16) ∨ host2 (n / 16) = loc5 then _ else _) = _
  rw [if_pos]
  · rfl
  · by_cases h0 : n / 16 = 0
    · exact .inr (host2_loc.mpr h0)
    · exact .inl (host2_dot.mpr h0)
theorem reach2_zero : reachL (host2 0) = host2 0 := by rw [host2_zero]; decide
/-- in small letters -/
def low2 (n : Nat) : List Nat := (host2 n).map lo1
theorem low2_zero : low2 0 = loc5 := by unfold low2; rw [host2_zero]; decide
theorem lo1_up {d : Nat} (h : d < 16) : lo1 (65 + d) = 97 + d := by
  have : ∀ d : Nat, d < 16 → lo1 (65 + d) = 97 + d := by decide
  exact this d h
theorem lo1_lo {d : Nat} (h : d < 16) : lo1 (97 + d) = 97 + d := by
  have : ∀ d : Nat, d < 16 → lo1 (97 + d) = 97 + d := by decide
  exact this d h
theorem low2_pos {n : Nat} (h : n ≠ 0) : low2 n = (97 + n % 16) :: 46 :: low2 (n / 16) := by
  unfold low2
  rw [host2_pos h, List.map_cons, List.map_cons, lo1_up (Nat.mod_lt _ (by decide))]
  rfl
theorem low2_low (n : Nat) : (low2 n).map lo1 = low2 n := by
  induction n using Nat.strongRecOn with
  | ind n ih =>
    by_cases h : n = 0
    · subst h; rw [low2_zero]; decide
    · rw [low2_pos h, List.map_cons, List.map_cons, lo1_lo (Nat.mod_lt _ (by decide)), ih (n / 16) (by omega)]
      rfl
theorem low2_head (n : Nat) : ∃ c r, low2 n = c :: r ∧ c ≠ 46 := by
  by_cases h : n = 0
  · subst h; rw [low2_zero]; exact ⟨108, _, rfl, by decide⟩
  · rw [low2_pos h]; exact ⟨_, _, rfl, by omega⟩
theorem low2_inj : ∀ {a b : Nat}, low2 a = low2 b → a = b := by
  intro a
  induction a using Nat.strongRecOn with
  | ind a ih =>
    intro b e
    by_cases ha : a = 0
    · by_cases hb : b = 0
      · rw [ha, hb]
      · subst ha
        rw [low2_zero, low2_pos hb] at e
        injection e with _ e
        injection e with e _
        exact absurd e (by decide)
    · by_cases hb : b = 0
      · subst hb
        rw [low2_zero, low2_pos ha] at e
        injection e with _ e
        injection e with e _
        exact absurd e (by decide)
      · rw [low2_pos ha, low2_pos hb] at e
        injection e with e1 e
        injection e with _ e
        have := ih (a / 16) (by omega) e
        omega
theorem host2_inj {a b : Nat} (h : host2 a = host2 b) : a = b := low2_inj (by unfold low2; rw [h])
/-- lies in the domain of q -/
def under (m q : Nat) : Bool := if h : m = 0 then false else decide (q = m / 16) || under (m / 16) q
termination_by m
decreasing_by omega
theorem under_zero (q : Nat) : under 0 q = false := by unfold under; simp
theorem under_pos {m q : Nat} (h : m ≠ 0) : under m q = (decide (q = m / 16) || under (m / 16) q) := by rw [under]; simp [h]
theorem under_le {q : Nat} : ∀ {m : Nat}, under m q = true → m ≠ 0 ∧ q ≤ m / 16 := by
  intro m
  induction m using Nat.strongRecOn with
  | ind m ih =>
    intro h
    by_cases h0 : m = 0
    · subst h0; rw [under_zero] at h; cases h
    · refine ⟨h0, ?_⟩
      rw [under_pos h0, Bool.or_eq_true, decide_eq_true_eq] at h
      rcases h with h | h
      · omega
      · have := ih (m / 16) (by omega) h
        omega
theorem sufB2 {l k : List Nat} {b : Bool} (h : l <:+ k ↔ b = true) : l.isSuffixOf k = b := by
  cases b with
  | true => exact List.isSuffixOf_iff_suffix.mpr (h.mpr rfl)
  | false =>
    cases e : l.isSuffixOf k with
    | false => rfl
    | true => exact absurd (h.mp (List.isSuffixOf_iff_suffix.mp e)) Bool.false_ne_true
theorem suf_under {q : Nat} : ∀ m : Nat, (46 :: low2 q) <:+ low2 m ↔ under m q = true := by
  intro m
  induction m using Nat.strongRecOn with
  | ind m ih =>
    by_cases h : m = 0
    · subst h
      rw [low2_zero, under_zero]
      simp only [Bool.false_eq_true, iff_false]
      intro hs
      have : 46 ∈ loc5 := hs.subset (.head _)
      have q : ¬ 46 ∈ loc5 := by decide
      exact q this
    · rw [low2_pos h, under_pos h, Bool.or_eq_true, decide_eq_true_eq, List.suffix_cons_iff, List.suffix_cons_iff, ← ih (m / 16) (by omega)]
      constructor
      · rintro (e | e | e)
        · injection e with e _; omega
        · injection e with _ e; exact .inl (low2_inj e)
        · exact .inr e
      · rintro (rfl | e)
        · exact .inr (.inl rfl)
        · exact .inr (.inr e)
theorem udm_under (m q : Nat) : udmL (host2 m) (46 :: host2 q) = under m q := by
  unfold udmL
  rw [if_pos (by rfl)]
  exact sufB2 (suf_under m)
theorem udm_eq2 (m q : Nat) : udmL (host2 m) ((host2 q).map lo1) = decide (m = q) := by
  unfold udmL
  show (if ((low2 q).map lo1).head? == some 46 then _ else decide (low2 m = (low2 q).map lo1)) = _
  rw [low2_low]
  obtain ⟨c, r, e, hc⟩ := low2_head q
  rw [if_neg (by rw [e]; simpa using hc)]
  by_cases h : m = q
  · subst h; simp
  · rw [decide_eq_false h, decide_eq_false fun e => h (low2_inj e)]
theorem udm_up2 (q : Nat) : udmL (46 :: host2 q) (46 :: host2 q) = true := by
  unfold udmL
  split
  · exact sufB2 (b := true) (by simp)
  · simp
theorem udm_bare2 (q : Nat) : udmL ((host2 q).map lo1) (host2 q) = true := by
  unfold udmL
  show (if (low2 q).head? == some 46 then _ else decide ((low2 q).map lo1 = low2 q)) = _
  rw [low2_low]
  obtain ⟨c, r, e, hc⟩ := low2_head q
  rw [if_neg (by rw [e]; simpa using hc)]
  simp
theorem host2_eq (a b : Nat) : decide (host2 a = host2 b) = decide (a = b) := by
  by_cases h : a = b
  · subst h; simp
  · rw [decide_eq_false h, decide_eq_false fun e => h (host2_inj e)]
/-- what is left behind a taking stays below, if it borrows nothing -/
theorem under_take {n s : Nat} (h1 : 1 ≤ s) (h2 : s < 16) (h3 : s ≤ n) : under (n - s) (n / 16) = (decide (s ≤ n % 16) && decide (s < n)) := by
  rw [Bool.eq_iff_iff, Bool.and_eq_true, decide_eq_true_eq, decide_eq_true_eq]
  constructor
  · intro h
    have := under_le h
    omega
  · rintro ⟨a, b⟩
    rw [under_pos (by omega), Bool.or_eq_true, decide_eq_true_eq]
    left; omega
theorem under_self (q : Nat) : under q q = false := by
  cases h : under q q with
  | false => rfl
  | true =>
    have := under_le h
    omega
theorem under_far {n : Nat} : ∀ k : Nat, n / 16 ^ k ≠ 0 → under n (n / 16 ^ (k + 1)) = true := by
  have key : ∀ (k m : Nat), m / 16 ^ k ≠ 0 → under m (m / 16 ^ (k + 1)) = true := by
    intro k
    induction k with
    | zero =>
      intro m h
      rw [Nat.pow_zero, Nat.div_one] at h
      rw [under_pos h]; simp
    | succ k ih =>
      intro m h
      have e : ∀ j, m / 16 ^ (j + 1) = m / 16 / 16 ^ j := fun j => by rw [Nat.pow_succ, Nat.mul_comm, Nat.div_div_eq_div_mul]
      have hm : m ≠ 0 := by rintro rfl; simp at h
      rw [e] at h
      rw [under_pos hm, e (k + 1), ih (m / 16) h]
      simp
  exact fun k => key k n
end Mine

end PartQ1
section PartQ2
open PySem PySem.W PySem.Calls PyProof.Rows
namespace Mine
theorem lt_digs2 (n : Nat) : n < 16 ^ (digs n).length := by
  induction n using Nat.strongRecOn with
  | ind n ih =>
    by_cases h : n = 0
    · subst h; rw [digs_zero]; decide
    · have := ih (n / 16) (by omega)
      rw [digs_pos h, List.length_append, List.length_singleton, Nat.pow_succ]
      omega
theorem len_step2 {n k : Nat} (h2 : 16 ^ k ≤ n) : k + 1 ≤ (digs n).length := by
  have := lt_digs2 n
  refine Nat.lt_of_not_le fun h => ?_
  have h3 : 16 ^ (digs n).length ≤ 16 ^ k := Nat.pow_le_pow_right (by decide) h
  omega
theorem len_end2 {n k : Nat} (h1 : k ≤ (digs n).length) (h2 : n < 16 ^ k) : k = (digs n).length := Nat.le_antisymm h1 (digs_len h2)
theorem div_pow_succ (n k : Nat) : n / 16 ^ (k + 1) = n / 16 ^ k / 16 := by rw [Nat.pow_succ, Nat.div_div_eq_div_mul]
theorem div_ne {n k : Nat} (h : k < (digs n).length) : n / 16 ^ k ≠ 0 := by
  intro e
  have hlt : n < 16 ^ k := by
    rcases Nat.div_eq_zero_iff.mp e with q | q
    · exact absurd q (Nat.pos_iff_ne_zero.mp (Nat.pow_pos (by decide)))
    · exact q
  have := digs_len hlt
  omega
theorem div_end (n : Nat) : n / 16 ^ (digs n).length = 0 := Nat.div_eq_of_lt (lt_digs2 n)
/-- the first k rungs -/
def lad2 (n k : Nat) : List (List Nat) := (List.range k).map fun j => 46 :: host2 (n / 16 ^ (j + 1))
theorem lad2_succ (n k : Nat) : lad2 n (k + 1) = lad2 n k ++ [46 :: host2 (n / 16 ^ (k + 1))] := by simp [lad2, List.range_succ]
theorem lad2_len (n k : Nat) : (lad2 n k).length = k := by simp [lad2]
theorem lad2_under {n : Nat} : ∀ l ∈ lad2 n (digs n).length, udmL (host2 n) l = true ∧ okT l ∧ l.length ≤ 2 * (digs n).length + 6 := by
  intro l hl
  obtain ⟨j, hj, rfl⟩ := List.mem_map.mp hl
  rw [List.mem_range] at hj
  refine ⟨by rw [udm_under]; exact under_far j (div_ne hj), ?_, ?_⟩
  · intro c hc
    rcases List.mem_cons.mp hc with rfl | hc
    · decide
    · exact host2_okT _ c hc
  · rw [List.length_cons, host2_len]
    have : (digs (n / 16 ^ (j + 1))).length ≤ (digs n).length := digs_len (Nat.lt_of_le_of_lt (Nat.div_le_self _ _) (lt_digs2 n))
    omega
theorem lad2_asc {n : Nat} (k : Nat) : ∀ l ∈ lad2 n k, ∀ c ∈ l, c < 128 := by
  intro l hl c hc
  obtain ⟨j, hj, rfl⟩ := List.mem_map.mp hl
  rcases List.mem_cons.mp hc with rfl | hc
  · decide
  · exact (host2_okT _ c hc).1
/-- read as figures -/
theorem worth_sum : ∀ (n : Nat) (k : Nat), ((List.range (digs n).length).map fun i => (((n / 16 ^ i % 16 * 16 ^ (k + i) : Nat)) : Int)).sum = ((n * 16 ^ k : Nat) : Int) := by
  intro n
  induction n using Nat.strongRecOn with
  | ind n ih =>
    intro k
    by_cases h : n = 0
    · subst h; rw [digs_zero]; simp
    · have hl : (digs n).length = (digs (n / 16)).length + 1 := by rw [digs_pos h]; simp
      rw [hl, List.range_succ_eq_map, List.map_cons, List.sum_cons, List.map_map]
      have e : (fun i => ((n / 16 ^ i % 16 * 16 ^ (k + i) : Nat) : Int)) ∘ Nat.succ = fun i => ((n / 16 / 16 ^ i % 16 * 16 ^ (k + 1 + i) : Nat) : Int) := by
        funext i
        show ((n / 16 ^ (i + 1) % 16 * 16 ^ (k + (i + 1)) : Nat) : Int) = _
        rw [Nat.pow_succ, Nat.mul_comm (16 ^ i), ← Nat.div_div_eq_div_mul, show k + (i + 1) = k + 1 + i by omega]
      rw [e, ih (n / 16) (by omega) (k + 1), Nat.pow_zero, Nat.div_one, Nat.add_zero, ← Int.natCast_add]
      congr 1
      rw [Nat.pow_succ, Nat.mul_comm (16 ^ k), ← Nat.mul_assoc, ← Nat.add_mul]
      congr 1
      omega
theorem labs2_at {n i : Nat} (h : i < (digs n).length) : (labs2 n)[i]? = some [65 + n / 16 ^ i % 16] := by
  induction n using Nat.strongRecOn generalizing i with
  | ind n ih =>
    have h0 : n ≠ 0 := by rintro rfl; rw [digs_zero] at h; cases h
    have hl : (digs n).length = (digs (n / 16)).length + 1 := by rw [digs_pos h0]; simp
    rw [labs2_pos h0]
    cases i with
    | zero => simp
    | succ i =>
      rw [List.getElem?_cons_succ, ih (n / 16) (by omega) (by omega), Nat.pow_succ, Nat.mul_comm (16 ^ i), ← Nat.div_div_eq_div_mul]
theorem labs2_len (n : Nat) : (labs2 n).length = (digs n).length + 1 := by simp [labs2]
theorem labs2_free (n : Nat) : ∀ q ∈ labs2 n, 46 ∉ q := by
  intro q hq
  rcases List.mem_append.mp hq with h | h
  · obtain ⟨d, _, rfl⟩ := List.mem_map.mp h
    simp; omega
  · rw [List.mem_singleton.mp h]; decide
/-- how many labels are passed, and what is left -/
def passN (st n : Nat) : Nat := if h : 16 ≤ n ∧ n % st = 0 then passN st (n / 16) + 1 else 0
termination_by n
decreasing_by omega
def leftN (st n : Nat) : Nat := if h : 16 ≤ n ∧ n % st = 0 then leftN st (n / 16) else n
termination_by n
decreasing_by omega
theorem passN_yes {st n : Nat} (h : 16 ≤ n ∧ n % st = 0) : passN st n = passN st (n / 16) + 1 := by rw [passN]; simp [h]
theorem passN_no {st n : Nat} (h : ¬ (16 ≤ n ∧ n % st = 0)) : passN st n = 0 := by rw [passN]; simp [h]
theorem leftN_yes {st n : Nat} (h : 16 ≤ n ∧ n % st = 0) : leftN st n = leftN st (n / 16) := by rw [leftN]; simp [h]
theorem leftN_no {st n : Nat} (h : ¬ (16 ≤ n ∧ n % st = 0)) : leftN st n = n := by rw [leftN]; simp [h]
/-- lost in the one play -/
def lost1 (st n : Nat) : Bool := n == 0 || passN st n % 2 == 1
/-- lost in the other play -/
def first2 (st n : Nat) : Bool := decide (leftN st n ≠ 0) && decide (leftN st n < 16) && decide (leftN st n % st = 1)
def lost2 (st n : Nat) : Bool := (passN st n % 2 == 1) != first2 st n
theorem pass_len (st : Nat) : ∀ n : Nat, passN st n ≤ (digs n).length := by
  intro n
  induction n using Nat.strongRecOn with
  | ind n ih =>
    by_cases h : 16 ≤ n ∧ n % st = 0
    · have := ih (n / 16) (by omega)
      rw [passN_yes h, digs_pos (by omega), List.length_append, List.length_singleton]
      omega
    · rw [passN_no h]; exact Nat.zero_le _
end Mine

end PartQ2
section PartQ3
open PySem PySem.W PySem.Calls PyProof.Rows
namespace Mine
theorem lost1_zero (st : Nat) : lost1 st 0 = true := rfl
theorem lost1_low {st n : Nat} (h0 : n ≠ 0) (h : n < 16) : lost1 st n = false := by
  unfold lost1
  rw [passN_no (by omega), beq_eq_false_iff_ne.mpr h0]
  rfl
theorem lost1_no {st n : Nat} (h : 16 ≤ n) (hm : n % st ≠ 0) : lost1 st n = false := by
  unfold lost1
  rw [passN_no (by omega), beq_eq_false_iff_ne.mpr (by omega)]
  rfl
theorem lost1_yes {st n : Nat} (h : 16 ≤ n) (hm : n % st = 0) : lost1 st n = !lost1 st (n / 16) := by
  unfold lost1
  rw [passN_yes ⟨h, hm⟩, beq_eq_false_iff_ne.mpr (show n ≠ 0 by omega), beq_eq_false_iff_ne.mpr (show n / 16 ≠ 0 by omega), Bool.false_or, Bool.false_or]
  generalize passN st (n / 16) = k
  rcases Nat.mod_two_eq_zero_or_one k with e | e
  · rw [e, show (k + 1) % 2 = 1 by omega]; rfl
  · rw [e, show (k + 1) % 2 = 0 by omega]; rfl
theorem lost2_zero (st : Nat) : lost2 st 0 = false := by
  unfold lost2 first2
  rw [passN_no (by omega), leftN_no (by omega)]
  rfl
theorem lost2_low {st n : Nat} (h0 : n ≠ 0) (h : n < 16) : lost2 st n = decide (n % st = 1) := by
  unfold lost2 first2
  rw [passN_no (by omega), leftN_no (by omega), decide_eq_true h0, decide_eq_true h, Bool.true_and, Bool.true_and]
  cases decide (n % st = 1) <;> rfl
theorem lost2_no {st n : Nat} (h : 16 ≤ n) (hm : n % st ≠ 0) : lost2 st n = false := by
  unfold lost2 first2
  rw [passN_no (by omega), leftN_no (by omega), decide_eq_false (show ¬ n < 16 by omega), Bool.and_false, Bool.false_and]
  rfl
theorem lost2_yes {st n : Nat} (h : 16 ≤ n) (hm : n % st = 0) : lost2 st n = !lost2 st (n / 16) := by
  unfold lost2
  have e : first2 st n = first2 st (n / 16) := by unfold first2; rw [leftN_yes ⟨h, hm⟩]
  rw [passN_yes ⟨h, hm⟩, e]
  generalize passN st (n / 16) = k
  cases first2 st (n / 16) <;> rcases Nat.mod_two_eq_zero_or_one k with e | e
  · rw [e, show (k + 1) % 2 = 1 by omega]; rfl
  · rw [e, show (k + 1) % 2 = 0 by omega]; rfl
  · rw [e, show (k + 1) % 2 = 1 by omega]; rfl
  · rw [e, show (k + 1) % 2 = 0 by omega]; rfl
/-- a step -/
def isStep (st : Nat) : Prop := st = 2 ∨ st = 4 ∨ st = 8 ∨ st = 16
/-- a taking of s from n stays near -/
def nearP (n s : Nat) : Prop := (s ≤ n % 16 ∧ s < n) ∨ n - s = n / 16
/-- what a play asks -/
def Told (L : Nat → Bool) (st n : Nat) : Prop :=
  (L n = true → (∀ s, 1 ≤ s → s < st → s ≤ n → L (n - s) = false) ∧ L (n / 16) = false) ∧
  (L n = false → ∃ x, ((∃ s, 1 ≤ s ∧ s < st ∧ s ≤ n ∧ n - s = x ∧ L x = true ∧ nearP n s) ∨ (x = n / 16 ∧ L x = true)) ∧
    (∀ s, 1 ≤ s → s < st → s ≤ n → L (n - s) = true → nearP n s → n - s = x) ∧ (L (n / 16) = true → n / 16 = x))
theorem told_big {L : Nat → Bool} {st n : Nat} (hst : isStep st) (hn : 16 ≤ n) (hno : ∀ m, 16 ≤ m → m % st ≠ 0 → L m = false) (hyes : ∀ m, 16 ≤ m → m % st = 0 → L m = !L (m / 16)) (hnd : n % st ≠ 0) : Told L st n := by
  have hd : n % st < st ∧ n % st ≤ n % 16 ∧ (n - n % st) % st = 0 ∧ (n - n % st) / 16 = n / 16 ∧ 16 ≤ n - n % st := by
    rcases hst with rfl | rfl | rfl | rfl <;> omega
  obtain ⟨d1, d2, d3, d4, d5⟩ := hd
  have hm := hyes _ d5 d3
  rw [d4] at hm
  have huniq : ∀ s, 1 ≤ s → s < st → s ≤ n → 16 ≤ n - s → L (n - s) = true → s = n % st := by
    intro s h1 h2 h3 h4 h5
    have : (n - s) % st = 0 := by
      refine Classical.byContradiction fun q => ?_
      rw [hno _ h4 q] at h5; cases h5
    rcases hst with rfl | rfl | rfl | rfl <;> omega
  refine ⟨fun h => (by rw [hno n hn hnd] at h; cases h), fun _ => ?_⟩
  cases hq : L (n / 16) with
  | true =>
    rw [hq] at hm
    refine ⟨n / 16, .inr ⟨rfl, hq⟩, fun s h1 h2 h3 h4 h5 => ?_, fun _ => rfl⟩
    by_cases h16 : 16 ≤ n - s
    · have := huniq s h1 h2 h3 h16 h4
      subst this
      rw [hm] at h4; cases h4
    · rcases h5 with h5 | h5
      · omega
      · exact h5
  | false =>
    rw [hq] at hm
    refine ⟨n - n % st, .inl ⟨n % st, by omega, d1, by omega, rfl, hm, .inl ⟨d2, by omega⟩⟩, fun s h1 h2 h3 h4 h5 => ?_, fun q => by cases q⟩
    by_cases h16 : 16 ≤ n - s
    · rw [huniq s h1 h2 h3 h16 h4]
    · rcases h5 with h5 | h5
      · omega
      · rw [h5, hq] at h4; cases h4
theorem told1 {st n : Nat} (hst : isStep st) (h0 : n ≠ 0) : Told (lost1 st) st n := by
  by_cases h16 : 16 ≤ n
  · by_cases hd : n % st = 0
    · have hm := lost1_yes h16 hd
      have hall : ∀ s, 1 ≤ s → s < st → s ≤ n → lost1 st (n - s) = false := by
        intro s h1 h2 h3
        have hne : (n - s) % st ≠ 0 ∧ n - s ≠ 0 := by rcases hst with rfl | rfl | rfl | rfl <;> omega
        by_cases h : 16 ≤ n - s
        · exact lost1_no h hne.1
        · exact lost1_low hne.2 (by omega)
      refine ⟨fun h => ⟨hall, ?_⟩, fun h => ⟨n / 16, .inr ⟨rfl, ?_⟩, fun s h1 h2 h3 h4 _ => ?_, fun _ => rfl⟩⟩
      · rw [h] at hm
        cases hq : lost1 st (n / 16) with
        | false => rfl
        | true => rw [hq] at hm; cases hm
      · rw [h] at hm
        cases hq : lost1 st (n / 16) with
        | true => rfl
        | false => rw [hq] at hm; cases hm
      · rw [hall s h1 h2 h3] at h4; cases h4
    · exact told_big hst h16 (fun _ => lost1_no) (fun _ => lost1_yes) hd
  · have hq : n / 16 = 0 := by omega
    refine ⟨fun h => (by rw [lost1_low h0 (by omega)] at h; cases h), fun _ => ⟨0, .inr ⟨hq.symm, rfl⟩, fun s h1 h2 h3 h4 _ => ?_, fun _ => hq⟩⟩
    refine Classical.byContradiction fun q => ?_
    rw [lost1_low q (by omega)] at h4; cases h4
theorem told2 {st n : Nat} (hst : isStep st) (h0 : n ≠ 0) : Told (lost2 st) st n := by
  by_cases h16 : 16 ≤ n
  · by_cases hd : n % st = 0
    · have hm := lost2_yes h16 hd
      have hbig : ∀ s, 1 ≤ s → s < st → s ≤ n → 16 ≤ n - s → lost2 st (n - s) = false := by
        intro s h1 h2 h3 h
        exact lost2_no h (by rcases hst with rfl | rfl | rfl | rfl <;> omega)
      have hsmall : ∀ s, 1 ≤ s → s < st → s ≤ n → ¬ 16 ≤ n - s → n = 16 := by
        intro s h1 h2 h3 h
        rcases hst with rfl | rfl | rfl | rfl <;> omega
      have h1st : lost2 st 1 = true := by
        rw [lost2_low (by decide) (by decide)]
        rcases hst with rfl | rfl | rfl | rfl <;> decide
      refine ⟨fun h => ?_, fun h => ⟨n / 16, .inr ⟨rfl, ?_⟩, fun s h1 h2 h3 h4 h5 => ?_, fun _ => rfl⟩⟩
      · rw [h] at hm
        have hq : lost2 st (n / 16) = false := by
          cases hq : lost2 st (n / 16) with
          | false => rfl
          | true => rw [hq] at hm; cases hm
        refine ⟨fun s h1 h2 h3 => ?_, hq⟩
        by_cases h : 16 ≤ n - s
        · exact hbig s h1 h2 h3 h
        · have := hsmall s h1 h2 h3 h
          subst this
          rw [show 16 / 16 = 1 by decide, h1st] at hq
          cases hq
      · rw [h] at hm
        cases hq : lost2 st (n / 16) with
        | true => rfl
        | false => rw [hq] at hm; cases hm
      · by_cases h : 16 ≤ n - s
        · rw [hbig s h1 h2 h3 h] at h4; cases h4
        · have := hsmall s h1 h2 h3 h
          subst this
          rcases h5 with h5 | h5
          · omega
          · exact h5
    · exact told_big hst h16 (fun _ => lost2_no) (fun _ => lost2_yes) hd
  · have hq : n / 16 = 0 := by omega
    have hL : ∀ m, m < 16 → (lost2 st m = true ↔ m ≠ 0 ∧ m % st = 1) := by
      intro m hm
      by_cases h : m = 0
      · subst h; rw [lost2_zero]; simp
      · rw [lost2_low h hm, decide_eq_true_eq]; simp [h]
    have hF : ∀ m, m < 16 → (lost2 st m = false ↔ ¬ (m ≠ 0 ∧ m % st = 1)) := by
      intro m hm
      rw [← hL m hm]; simp
    refine ⟨fun h => ?_, fun h => ?_⟩
    · rw [hL n (by omega)] at h
      refine ⟨fun s h1 h2 h3 => ?_, by rw [hq]; exact lost2_zero st⟩
      rw [hF _ (by omega)]
      rcases hst with rfl | rfl | rfl | rfl <;> omega
    · rw [hF n (by omega)] at h
      have hd : 1 ≤ (n - 1) % st ∧ (n - 1) % st < st ∧ (n - 1) % st < n ∧ (n - (n - 1) % st) % st = 1 := by
        rcases hst with rfl | rfl | rfl | rfl <;> omega
      refine ⟨n - (n - 1) % st, .inl ⟨(n - 1) % st, hd.1, hd.2.1, by omega, rfl, ?_, .inl ⟨by omega, hd.2.2.1⟩⟩, fun s h1 h2 h3 h4 _ => ?_, fun q => by rw [hq, lost2_zero] at q; cases q⟩
      · rw [hL _ (by omega)]
        exact ⟨by omega, hd.2.2.2⟩
      · rw [hL _ (by omega)] at h4
        rcases hst with rfl | rfl | rfl | rfl <;> omega
end Mine

end PartQ3
section PartQ4
open PySem PySem.W PySem.Calls PyProof.Rows
namespace Mine
/-- the numbers that a move leads to -/
def opts (n b : Nat) : List Nat := ((List.range b).map fun i => n - (1 + i)) ++ [n / 16]
theorem opts_len (n b : Nat) : (opts n b).length = b + 1 := by simp [opts]
theorem opts_take {n b k : Nat} (h : k < b) : (opts n b).getD k 0 = n - (1 + k) := by
  unfold opts
  rw [List.getD, List.getElem?_append_left (by simp; exact h)]
  simp [h]
theorem opts_last (n b : Nat) : (opts n b).getD b 0 = n / 16 := by
  simp [opts, List.getD]
/-- what a play must show -/
def Game (os : List Nat) (q : Nat) (P : Nat → Bool) (b : Bool) : Prop :=
  (b = true → ∀ k, k < os.length → P (os.getD k 0) = false) ∧
  (b = false → ∃ x, (∃ k, k < os.length ∧ P (os.getD k 0) = true ∧ (under (os.getD k 0) q = true ∨ os.getD k 0 = q) ∧ os.getD k 0 = x) ∧ ∀ k, k < os.length → P (os.getD k 0) = true → (under (os.getD k 0) q = true ∨ os.getD k 0 = q) → os.getD k 0 = x)
theorem near_iff {n s : Nat} (h1 : 1 ≤ s) (h2 : s < 16) (h3 : s ≤ n) : (under (n - s) (n / 16) = true ∨ n - s = n / 16) ↔ nearP n s := by
  rw [under_take h1 h2 h3, Bool.and_eq_true, decide_eq_true_eq, decide_eq_true_eq]
  exact Iff.rfl
theorem game_of {P : Nat → Bool} {st n b : Nat} (hst : isStep st) (ht : Told P st n) (hb : b + 1 ≤ st ∧ b ≤ n ∧ ∀ s, 1 ≤ s → s < st → s ≤ n → s ≤ b) : Game (opts n b) (n / 16) P (P n) := by
  obtain ⟨hb1, hb2, hb3⟩ := hb
  have hs16 : st ≤ 16 := by rcases hst with rfl | rfl | rfl | rfl <;> decide
  unfold Game
  rw [opts_len]
  refine ⟨fun h k hk => ?_, fun h => ?_⟩
  · obtain ⟨t1, t2⟩ := ht.1 h
    by_cases q : k < b
    · rw [opts_take q]; exact t1 (1 + k) (by omega) (by omega) (by omega)
    · obtain rfl : k = b := by omega
      rw [opts_last]; exact t2
  · obtain ⟨x, h1, h2, h3⟩ := ht.2 h
    refine ⟨x, ?_, fun k hk hp hn => ?_⟩
    · rcases h1 with ⟨s, s1, s2, s3, s4, s5, s6⟩ | ⟨h4, h5⟩
      · have hsb := hb3 s s1 s2 s3
        have hk : s - 1 < b := by omega
        have e : (opts n b).getD (s - 1) 0 = n - s := by rw [opts_take hk, show 1 + (s - 1) = s by omega]
        refine ⟨s - 1, by omega, ?_, ?_, ?_⟩
        · rw [e, s4]; exact s5
        · rw [e]; exact (near_iff s1 (by omega) s3).mpr s6
        · rw [e]; exact s4
      · refine ⟨b, by omega, ?_, ?_, ?_⟩
        · rw [opts_last, ← h4]; exact h5
        · rw [opts_last]; exact .inr rfl
        · rw [opts_last]; exact h4.symm
    · by_cases q : k < b
      · rw [opts_take q] at hp hn ⊢
        exact h2 (1 + k) (by omega) (by omega) (by omega) hp ((near_iff (by omega) (by omega) (by omega)).mp hn)
      · obtain rfl : k = b := by omega
        rw [opts_last] at hp ⊢; exact h3 hp
end Mine

end PartQ4
section PartH3
open PySem PySem.W PySem.Calls PyProof.Rows
set_option maxRecDepth 100000
set_option maxHeartbeats 4000000
set_option pp.deepTerms false
set_option pp.deepTerms.threshold 8
namespace Mine
local macro_rules | `(tactic| walk_at "zz none") => `(tactic| fail "none")
local macro_rules | `(tactic| walk_at "zz none") => `(tactic| fail "none")
local macro_rules | `(tactic| walk_at "zz none") => `(tactic| fail "none")
local macro_rules | `(tactic| walk_at "zz none") => `(tactic| fail "none")
local macro_rules | `(tactic| walk_at "zz none") => `(tactic| fail "none")
local macro_rules | `(tactic| walk_at "zz none") => `(tactic| fail "none")
local macro_rules | `(tactic| walk_at "zz none") => `(tactic| fail "none")
local macro_rules | `(tactic| walk_at "zz none") => `(tactic| fail "none")
local macro_rules | `(tactic| walk_at "zz none") => `(tactic| fail "none")
local macro_rules | `(tactic| walk_at "zz none") => `(tactic| fail "none")
local macro_rules | `(tactic| walk_at "zz none") => `(tactic| fail "none")
local macro_rules | `(tactic| walk_at "zz none") => `(tactic| fail "none")
local macro_rules | `(tactic| walk_at "zz none") => `(tactic| fail "none")
local macro_rules | `(tactic| walk_at "zz none") => `(tactic| fail "none")
local macro_rules | `(tactic| walk_at "zz none") => `(tactic| fail "none")
local macro_rules | `(tactic| walk_at "zz none") => `(tactic| fail "none")
local macro_rules | `(tactic| walk_at "zz none") => `(tactic| fail "none")
local macro_rules | `(tactic| walk_at "zz none") => `(tactic| fail "none")
local macro_rules | `(tactic| walk_at "zz none") => `(tactic| fail "none")
local macro_rules | `(tactic| walk_at "zz none") => `(tactic| fail "none")
theorem fillh3 : PySem.Challenge.rw_rl0024_02.wellSaid = true ∧ hd.heap_39 = hd.heap_39 → True := by
  k_fill
  exact fun _ => trivial
theorem TxtsAre.rev : ∀ {vs : List Value} {ls : List (List Nat)}, TxtsAre vs ls → TxtsAre vs.reverse ls.reverse
  | [], [], _ => trivial
  | _ :: _, _ :: _, ⟨a, b⟩ => by
    rw [List.reverse_cons, List.reverse_cons]
    exact b.rev.app ⟨a, trivial⟩
  | [], _ :: _, h => h.elim
  | _ :: _, [], h => h.elim
local macro_rules | `(tactic| walk_at "eval ListComp") => `(tactic| (k_here; refine Stop.mk ?_))
local macro_rules | `(tactic| walk_at "exec Assign cons ListComp") => `(tactic| (k_here; refine Stop.mk ?_))
local macro_rules | `(tactic| walk_at "subscriptTail Name Slice ref ref") => `(tactic| (k_here; refine Stop.mk ?_))
local macro_rules | `(tactic| walk_at "binaryOp Add ref ref") => `(tactic| (k_here; refine Stop.mk ?_))
local macro_rules | `(tactic| walk_at "call builtin:str.join") => `(tactic| (k_here; refine Stop.mk ?_))
local macro_rules | `(tactic| walk_at "call ref") => `(tactic| (k_here; (with_reducible show wpAny _ _ (call (Value.ref 71) _) _ _ _); k_dflt (refine' int2ap (ambOf ?B ?F ?X ?T ?hA ?hf ?hk) ?d ?x ?_; (case B => k_asm); (case hA => exact rfl); (case hf => exact rfl); (case hk => exact rfl); (case F => k_asm); (case X => k_asm); (case T => k_asm); (case d => first | ((try dsimp only); omega) | ktr_room); (case x => assumption); intro h' t' tk' st'; (have F' := frStays (by k_asm) st'); (have N' := newsStays (by k_asm) st'); clear st'; (try dsimp only); (try k_sweep))))
local macro_rules | `(tactic| walk_at "eval Constant str") => `(tactic| ((first | with_reducible refine r_const sDot ?_ | with_reducible refine r_const sLocal ?_); intro _ _; (try dsimp only)))
local macro_rules | `(tactic| walk_at "eval Name") => `(tactic| (k_here; k_dflt (first
  | (refine' nmL ?k1 ?k2 ?_; (case k1 => k_asm); (case k2 => assumption); k_whole)
  | (refine' nmK ?k1 ?k2 ?k3 ?k4 ?_; (case k1 => k_asm); (case k2 => k_asm); (case k3 => k_asm); (case k4 => k_is); k_whole)
  | (refine' nmB ?k1 ?k2 ?k3 ?k4 ?k5 ?k6 ?_; (case k1 => k_asm); (case k2 => k_asm); (case k3 => k_asm); (case k4 => k_is); (case k5 => boot_by_name); (case k6 => decide); k_whole)
  | (refine' nmC ?k1 ?k2 ?k3 ?k4 ?_; (case k1 => k_asm); (case k2 => exact rfl); (case k3 => k_mem); (case k4 => assumption); k_whole)
  | (refine' ld ?k1 ?k2 ?_; (case k1 => k_asm); (case k2 => assumption); k_whole))))
section
variable {prog : Program} {w : World} {dp un : Nat} {gd : Option (List Code)} {s : Shared} {base : Heap} {fr : List Env} {p : Program} {loose : List Str} {mean : ExcName → Option Value} {mg mb : Str → Option Value} {Q E : Value → Shared → Prop}
theorem host2_at {i : Int} {t : Tok} (M : Amb (hd.heap_39 w.params) p loose mean mg mb (At dp un gd fr) base fr s.heap) (hdp : dp + 1 < recursionLimit) (hi : (digs i.natAbs).length ≤ 1000)
   (h : ∀ h' t' tk', s.heap.StaysIn h' → Q (.str (S (host2 i.natAbs)) t') { s with heap := h', toks := tk' }) : wpAny (model prog w) (At dp un gd fr) (call (.ref 76) [.int i t]) Q E s := by
  refine wpAny_call ?_
  k_dflt (refine' callP (binds := [(Str.ofString "number", Value.int i t)]) M ?k6 ?k7 ?k8 ?k9 ?kB ?_ ?c2 ?c3 ?c4 ?c5; (case k6 => k_is); (case k7 => k_is); (case k8 => (show dp < recursionLimit; omega)); (case k9 => exact BindsTo.of_eq rfl); (case c5 => decide); (case kB => exact locs rfl); (case c2 => exact rfl); (case c3 => exact rfl); (case c4 => exact rfl))
  intro L' h₁ F' N' B' X' T'
  dsimp only
  w_on
  w_strict (k_fold; (repeat' (first | (k_unfold; (try dsimp only)) | walk1 | (dsimp only; walk1) | (leave1; (try dsimp only)))))
  show wpAny _ _ _ _ _ _
  refine' compA (cl := []) ?c1 ?c2 ?c3 ?c4 ?c5 ?c6 ?c7 ?c8 ?c9 ?_
  case c1 => with_unfolding_all rfl
  case c2 => with_unfolding_all rfl
  case c3 => decide
  case c4 => exact rfl
  case c5 => decide
  case c6 => exact rfl
  case c7 => exact rfl
  case c8 => exact rfl
  case c9 => intro _; exact rfl
  w_strict (repeat' (first | (k_unfold; (try dsimp only)) | walk1 | (dsimp only; walk1) | (leave1; (try dsimp only))))
  refine compItA_src (srcBytes (digs_lt _) rfl) rfl (by assumption) (by assumption) (fits6 (by rw [List.length_map]; omega)) (fun a _ b _ v => IsI.inj) (fun _ => true) (fun a y => IsT [a.toNat] y) ⟨fun _ _ _ _ _ _ _ _ _ _ _ _ _ => tests_nil rfl, ?_⟩ ?_
  · rintro C a v s₃ m₃ E' ha ⟨ta, rfl⟩ _ hm F₁ N₁ F₃ N₃
    have hb : 0 ≤ a ∧ a < 128 := by
      obtain ⟨d, hd, rfl⟩ := List.mem_map.mp ha
      have := digs_lt _ d hd
      omega
    w_strict (repeat' (first | (k_unfold; (try dsimp only)) | walk1 | (dsimp only; walk1) | (leave1; (try dsimp only))))
    · exact ⟨_, rfl⟩
    · exact keeps_of fun _ _ e => e
  · intro D c h' tk ys F₁ N₁ off hP
    rw [List.filter_eq_self.mpr (fun _ _ => rfl)] at hP
    have hT := TxtsAre.ofPaired hP
    rw [toNat_sign] at hT
    have hlen := hT.len
    rw [List.length_map] at hlen
    clear hP
    w_strict (repeat' (first | (k_unfold; (try dsimp only)) | walk1 | (dsimp only; walk1) | (leave1; (try dsimp only))))
    have hD := (N₁ _ (.head _)).1
    refine r_lpickS (isl hD) .none .none (.int _ _) (by decide) (by omega) ?_
    intro D2 h2 st2 fr2 ho2
    rw [krv_pick] at ho2
    have F2 := frStays F₁ st2
    have N2 : News _ _ _ _ := newsOf F₁ N₁ st2 fr2 ho2
    clear F₁ N₁ hD
    w_strict (repeat' (first | (k_unfold; (try dsimp only)) | walk1 | (dsimp only; walk1) | (leave1; (try dsimp only))))
    rename Fr _ _ _ _ => F3
    rename News _ _ _ _ => N3
    have hA1 := (N3 _ (.tail _ (.head _))).1
    have hA2 := (N3 _ (.head _)).1
    refine r_addTxts F3 N3 (.tail _ (.head _)) (.head _) (ls := ((digs i.natAbs).map fun d => [65 + d]).reverse) (ks := [loc5]) (by simpa using hT.rev) ⟨⟨_, rfl⟩, trivial⟩ (by simp; omega) ?_
    intro D4 h4 F4 N4 hT4
    w_strict (repeat' (first | (k_unfold; (try dsimp only)) | walk1 | (dsimp only; walk1) | (leave1; (try dsimp only))))
    have hD4 := (N4 _ (.head _)).1
    refine r_join (ls := labs2 i.natAbs) (isl hD4) ?_ ?_ ?_
    · have : labs2 i.natAbs = ((digs i.natAbs).map fun d => [65 + d]).reverse ++ [loc5] := by unfold labs2; rw [List.map_reverse]
      rw [this]; simpa using hT4
    · rw [labs2, List.map_append, List.sum_append, sum_ones, List.length_append, List.length_map, List.length_reverse]
      simp [loc5]
      omega
    · intro t' tk'
      w_strict (repeat' (first | (k_unfold; (try dsimp only)) | walk1 | (dsimp only; walk1) | (leave1; (try dsimp only))))
      exact end_str h (join_labs2 _) F4.keep
end
end Mine

end PartH3
section PartH4
open PySem PySem.W PySem.Calls PyProof.Rows
set_option maxRecDepth 100000
set_option maxHeartbeats 4000000
set_option pp.deepTerms false
set_option pp.deepTerms.threshold 8
namespace Mine
local macro_rules | `(tactic| walk_at "zz none") => `(tactic| fail "none")
local macro_rules | `(tactic| walk_at "zz none") => `(tactic| fail "none")
local macro_rules | `(tactic| walk_at "zz none") => `(tactic| fail "none")
local macro_rules | `(tactic| walk_at "zz none") => `(tactic| fail "none")
local macro_rules | `(tactic| walk_at "zz none") => `(tactic| fail "none")
local macro_rules | `(tactic| walk_at "zz none") => `(tactic| fail "none")
local macro_rules | `(tactic| walk_at "zz none") => `(tactic| fail "none")
local macro_rules | `(tactic| walk_at "zz none") => `(tactic| fail "none")
local macro_rules | `(tactic| walk_at "zz none") => `(tactic| fail "none")
local macro_rules | `(tactic| walk_at "zz none") => `(tactic| fail "none")
local macro_rules | `(tactic| walk_at "zz none") => `(tactic| fail "none")
local macro_rules | `(tactic| walk_at "zz none") => `(tactic| fail "none")
local macro_rules | `(tactic| walk_at "zz none") => `(tactic| fail "none")
local macro_rules | `(tactic| walk_at "zz none") => `(tactic| fail "none")
local macro_rules | `(tactic| walk_at "zz none") => `(tactic| fail "none")
local macro_rules | `(tactic| walk_at "zz none") => `(tactic| fail "none")
local macro_rules | `(tactic| walk_at "zz none") => `(tactic| fail "none")
local macro_rules | `(tactic| walk_at "zz none") => `(tactic| fail "none")
local macro_rules | `(tactic| walk_at "zz none") => `(tactic| fail "none")
local macro_rules | `(tactic| walk_at "zz none") => `(tactic| fail "none")
local macro_rules | `(tactic| walk_at "zz none") => `(tactic| fail "none")
local macro_rules | `(tactic| walk_at "zz none") => `(tactic| fail "none")
local macro_rules | `(tactic| walk_at "zz none") => `(tactic| fail "none")
local macro_rules | `(tactic| walk_at "zz none") => `(tactic| fail "none")
local macro_rules | `(tactic| walk_at "zz none") => `(tactic| fail "none")
local macro_rules | `(tactic| walk_at "zz none") => `(tactic| fail "none")
local macro_rules | `(tactic| walk_at "zz none") => `(tactic| fail "none")
local macro_rules | `(tactic| walk_at "zz none") => `(tactic| fail "none")
theorem fillh4 : PySem.Challenge.rw_rl0024_02.wellSaid = true ∧ hd.heap_39 = hd.heap_39 → True := by
  k_fill
  exact fun _ => trivial
local macro_rules | `(tactic| walk_at "eval Name") => `(tactic| (k_here; k_dflt (refine' ld ?k1 ?k2 ?_; (case k1 => k_asm); (case k2 => assumption); k_whole)))
local macro_rules | `(tactic| walk_at "exec While Compare cons nil") => `(tactic| (k_here; refine Stop.mk ?_))
local macro_rules | `(tactic| walk_at "binaryOp Pow int int") => `(tactic| (k_here; k_dflt (refine r_pow (by omega) (by omega) (by decide) ?_); intro _ _; (try dsimp only)))
section
variable {prog : Program} {w : World} {dp un : Nat} {gd : Option (List Code)} {s : Shared} {base : Heap} {fr : List Env} {p : Program} {loose : List Str} {mean : ExcName → Option Value} {mg mb : Str → Option Value} {Q E : Value → Shared → Prop}
theorem letters_at {n : Nat} {t : Tok} (M : Amb (hd.heap_39 w.params) p loose mean mg mb (At dp un gd fr) base fr s.heap) (hdp : dp < recursionLimit) (hi : (digs n).length ≤ 900)
   (h : ∀ h' t' tk', s.heap.StaysIn h' → Q (.int (digs n).length t') { s with heap := h', toks := tk' }) : wpAny (model prog w) (At dp un gd fr) (call (.ref 83) [.int n t]) Q E s := by
  refine wpAny_call ?_
  k_dflt (refine' callP (binds := [(Str.ofString "number", Value.int n t)]) M ?k6 ?k7 ?k8 ?k9 ?kB ?_ ?c2 ?c3 ?c4 ?c5; (case k6 => k_is); (case k7 => k_is); (case k8 => (show dp < recursionLimit; omega)); (case k9 => exact BindsTo.of_eq rfl); (case c5 => decide); (case kB => exact locs rfl); (case c2 => exact rfl); (case c3 => exact rfl); (case c4 => exact rfl))
  intro L' h₁ F' N' B' X' T'
  dsimp only
  w_on
  w_strict (k_fold; (repeat' (first | (k_unfold; (try dsimp only)) | walk1 | (dsimp only; walk1) | (leave1; (try dsimp only)))))
  refine While_inv2 (fun q m news => ∃ (k : Nat) (t1 t2 : Tok), q + k = (digs n).length ∧ news = [] ∧ m (Str.ofString "letters") = some (.int k t1) ∧ m (Str.ofString "number") = some (.int n t2)) (n₀ := (digs n).length) (by assumption) (by assumption) ⟨0, _, _, rfl, rfl, rfl, rfl⟩ ?_ (fun _ _ x => x.elim)
  rintro q m₁ news₁ h₁ tk₁ F₁ N₁ ⟨k, t1, t2, hq, rfl, e1, e2⟩
  have hk9 : k ≤ 900 := by omega
  w_strict (repeat' (first | (k_unfold; (try dsimp only)) | walk1 | (dsimp only; walk1) | (leave1; (try dsimp only))))
  · rename _ ≤ _ => hle
    rename Fr _ _ _ _ => F9
    have hle2 : 16 ^ k ≤ n := by
      rw [Int.toNat_natCast] at hle
      have e : ((16 ^ k : Nat) : Int) = (16 : Int) ^ k := by simp
      omega
    have := len_step2 hle2
    exact ⟨_, _, _, [], q - 1, rfl, F9, News.nil, by omega, k + 1, _, _, by omega, rfl, rfl, e2⟩
  · rename ¬ (_ ≤ _) => hgt
    rename Fr _ _ _ _ => F9
    have hgt2 : n < 16 ^ k := by
      rw [Int.toNat_natCast] at hgt
      have e : ((16 ^ k : Nat) : Int) = (16 : Int) ^ k := by simp
      omega
    obtain rfl : k = (digs n).length := len_end2 (by omega) hgt2
    exact h _ _ _ F9.keep
end
local macro_rules | `(tactic| walk_at "eval ListComp") => `(tactic| (k_here; refine Stop.mk ?_))
local macro_rules | `(tactic| walk_at "compareOp Eq ref ref") => `(tactic| (k_here; refine Stop.mk ?_))
local macro_rules | `(tactic| walk_at "subscriptTail Name Name ref int") => `(tactic| (k_here; refine Stop.mk ?_))
local macro_rules | `(tactic| walk_at "compareOp IsNot bool bool") => `(tactic| (k_here; refine r_isntF rfl ?_))
local macro_rules | `(tactic| walk_at "call builtin:len") => `(tactic| (k_here; (with_reducible show wpAny _ _ (call (Value.builtin "len") [Value.ref _]) _ _ _); refine Stop.mk ?_))
local macro_rules | `(tactic| walk_at "eval Name") => `(tactic| (k_here; k_dflt (first
  | (refine' nmL ?k1 ?k2 ?_; (case k1 => k_asm); (case k2 => assumption); k_whole)
  | (refine' nmK ?k1 ?k2 ?k3 ?k4 ?_; (case k1 => k_asm); (case k2 => k_asm); (case k3 => k_asm); (case k4 => k_is); k_whole)
  | (refine' nmB ?k1 ?k2 ?k3 ?k4 ?k5 ?k6 ?_; (case k1 => k_asm); (case k2 => k_asm); (case k3 => k_asm); (case k4 => k_is); (case k5 => boot_by_name); (case k6 => decide); k_whole)
  | (refine' nmC ?k1 ?k2 ?k3 ?k4 ?_; (case k1 => k_asm); (case k2 => exact rfl); (case k3 => k_mem); (case k4 => assumption); k_whole)
  | (refine' ldQ ?k1 ?k2 ?_; (case k1 => k_asm); (case k2 => assumption); k_whole))))
section
variable {prog : Program} {w : World} {dp un : Nat} {gd : Option (List Code)} {s : Shared} {base : Heap} {fr : List Env} {p : Program} {loose : List Str} {mean : ExcName → Option Value} {mg mb : Str → Option Value} {Q E : Value → Shared → Prop}
theorem like_at {a b : Addr} {bs : List Bool} {c d : Nat} (M : Amb (hd.heap_39 w.params) p loose mean mg mb (At dp un gd fr) base fr s.heap) (hdp : dp < recursionLimit) (hun : un + 100 < cLine) (hb : bs.length ≤ 1000)
   (ha : s.heap.get? a = some { cls := .type "list", data := .seq (bs.map Value.bool).toArray c }) (hb' : s.heap.get? b = some { cls := .type "list", data := .seq (bs.map Value.bool).toArray d })
   (h : ∀ h' tk', s.heap.StaysIn h' → Q (.bool true) { s with heap := h', toks := tk' }) : wpAny (model prog w) (At dp un gd fr) (call (.ref 100) [.ref a, .ref b]) Q E s := by
  refine wpAny_call ?_
  k_dflt (refine' callC (binds := [(Str.ofString "told", Value.ref a), (Str.ofString "dues", Value.ref b)]) M ?k6 ?k7 ?k8 ?k9 ?kB ?kD ?_ ?c2 ?c3 ?c4; (case k6 => k_is); (case k7 => k_is); (case k8 => (show dp < recursionLimit; omega)); (case k9 => exact BindsTo.of_eq rfl); (case kB => exact rfl); (case kD => decide +kernel); (case c2 => exact rfl); (case c3 => exact rfl); (case c4 => exact rfl))
  intro L' h₁ tk cells F' N' Y' B' X' T'
  k_cells Y'
  w_on
  w_strict ((try dsimp only); (try k_fold); (repeat' (first | (k_unfold; (try dsimp only)) | walk1 | (dsimp only; walk1) | (leave1; (try dsimp only)))))
  show wpAny _ _ _ _ _ _
  refine' compE (cl := ?cl) ?a ?b ?c ?d ?e ?f ?_
  case a => with_unfolding_all rfl
  case b => decide
  case c => exact rfl
  case d => decide
  case e => exact rfl
  case f => intro _; exact rfl
  w_strict (repeat' (first | (k_unfold; (try dsimp only)) | walk1 | (dsimp only; walk1) | (leave1; (try dsimp only))))
  rename Fr _ _ _ _ => F1
  rename News _ _ _ _ => N1
  refine len_list (isl (F1.keep _ _ hb')) (by simp; omega) ?_
  w_strict (repeat' (first | (k_unfold; (try dsimp only)) | walk1 | (dsimp only; walk1) | (leave1; (try dsimp only))))
  rename IsRange _ _ _ _ _ _ _ _ => hR
  rename Fr _ _ _ _ => F9
  rename News _ _ _ _ => N9
  have hRu := rangeUp (a := 0) (b := ((bs.map Value.bool).toArray.size : Int)) (n := bs.length) (by decide) (by simp) (by simp; omega)
  refine compIt_src (srcRange (n := bs.length) rfl hR hRu.1 hRu.2 rfl) F9 N9 (by simp; exact fits6 (by omega)) (fun a _ b _ v => IsI.inj) (fun _ => false) (fun _ _ => True) ⟨?_, fun _ _ _ _ _ _ _ _ hp => absurd hp Bool.false_ne_true⟩ ?_
  · rintro C a v s₃ m₃ E' ha2 ⟨ta, rfl⟩ hm' F₁ N₁ F₃ N₃
    obtain ⟨j, hj, rfl⟩ := List.mem_map.mp ha2
    rw [List.mem_range] at hj
    have hbj : bs.length ≤ 1000 := hb
    refine tests_one ?_
    w_strict (repeat' (first | (k_unfold; (try dsimp only)) | walk1 | (dsimp only; walk1) | (leave1; (try dsimp only))))
    refine r_litem (F₁.keep _ _ ha) (by omega) (by omega) (bool_at (i := (0 + (j : Int)).toNat) (by omega)) ?_
    w_strict (repeat' (first | (k_unfold; (try dsimp only)) | walk1 | (dsimp only; walk1) | (leave1; (try dsimp only))))
    refine r_litem (F₁.keep _ _ hb') (by omega) (by omega) (bool_at (i := (0 + (j : Int)).toNat) (by omega)) ?_
    w_strict (repeat' (first | (k_unfold; (try dsimp only)) | walk1 | (dsimp only; walk1) | (leave1; (try dsimp only))))
    · exact ⟨_, _, rfl, fun _ _ e => e⟩
  intro D3 c3 h6 tk6 ys3 F₆ N₆ off6 hP6
  rw [List.filter_eq_nil_iff.mpr (fun _ _ => Bool.false_ne_true)] at hP6
  cases hP6
  w_strict (repeat' (first | (k_unfold; (try dsimp only)) | walk1 | (dsimp only; walk1) | (leave1; (try dsimp only))))
  rename Fr _ _ _ _ => F9
  rename News _ _ _ _ => N9
  refine r_eqInts (vs := []) (us := []) (N9 _ (.tail _ (.head _))).1 .nil (N9 _ (.head _)).1 .nil (by have := cLine_is; show un + 3 + 64 < cLine; omega) ?_
  w_strict (repeat' (first | (k_unfold; (try dsimp only)) | walk1 | (dsimp only; walk1) | (leave1; (try dsimp only))))
  exact h _ _ F9.keep
end
end Mine

end PartH4
section PartH6
open PySem PySem.W PySem.Calls PyProof.Rows
set_option maxRecDepth 100000
set_option maxHeartbeats 4000000
set_option pp.deepTerms false
set_option pp.deepTerms.threshold 8
namespace Mine
local macro_rules | `(tactic| walk_at "zz none") => `(tactic| fail "none")
local macro_rules | `(tactic| walk_at "zz none") => `(tactic| fail "none")
local macro_rules | `(tactic| walk_at "zz none") => `(tactic| fail "none")
local macro_rules | `(tactic| walk_at "zz none") => `(tactic| fail "none")
local macro_rules | `(tactic| walk_at "zz none") => `(tactic| fail "none")
local macro_rules | `(tactic| walk_at "zz none") => `(tactic| fail "none")
local macro_rules | `(tactic| walk_at "zz none") => `(tactic| fail "none")
local macro_rules | `(tactic| walk_at "zz none") => `(tactic| fail "none")
local macro_rules | `(tactic| walk_at "zz none") => `(tactic| fail "none")
local macro_rules | `(tactic| walk_at "zz none") => `(tactic| fail "none")
local macro_rules | `(tactic| walk_at "zz none") => `(tactic| fail "none")
local macro_rules | `(tactic| walk_at "zz none") => `(tactic| fail "none")
local macro_rules | `(tactic| walk_at "zz none") => `(tactic| fail "none")
local macro_rules | `(tactic| walk_at "zz none") => `(tactic| fail "none")
local macro_rules | `(tactic| walk_at "zz none") => `(tactic| fail "none")
local macro_rules | `(tactic| walk_at "zz none") => `(tactic| fail "none")
local macro_rules | `(tactic| walk_at "zz none") => `(tactic| fail "none")
local macro_rules | `(tactic| walk_at "zz none") => `(tactic| fail "none")
local macro_rules | `(tactic| walk_at "zz none") => `(tactic| fail "none")
local macro_rules | `(tactic| walk_at "zz none") => `(tactic| fail "none")
local macro_rules | `(tactic| walk_at "zz none") => `(tactic| fail "none")
local macro_rules | `(tactic| walk_at "zz none") => `(tactic| fail "none")
local macro_rules | `(tactic| walk_at "zz none") => `(tactic| fail "none")
local macro_rules | `(tactic| walk_at "zz none") => `(tactic| fail "none")
local macro_rules | `(tactic| walk_at "zz none") => `(tactic| fail "none")
local macro_rules | `(tactic| walk_at "zz none") => `(tactic| fail "none")
local macro_rules | `(tactic| walk_at "zz none") => `(tactic| fail "none")
local macro_rules | `(tactic| walk_at "zz none") => `(tactic| fail "none")
local macro_rules | `(tactic| walk_at "zz none") => `(tactic| fail "none")
local macro_rules | `(tactic| walk_at "zz none") => `(tactic| fail "none")
local macro_rules | `(tactic| walk_at "zz none") => `(tactic| fail "none")
local macro_rules | `(tactic| walk_at "zz none") => `(tactic| fail "none")
local macro_rules | `(tactic| walk_at "zz none") => `(tactic| fail "none")
local macro_rules | `(tactic| walk_at "zz none") => `(tactic| fail "none")
local macro_rules | `(tactic| walk_at "zz none") => `(tactic| fail "none")
local macro_rules | `(tactic| walk_at "zz none") => `(tactic| fail "none")
local macro_rules | `(tactic| walk_at "zz none") => `(tactic| fail "none")
theorem fillh6 : PySem.Challenge.rw_rl0024_02.wellSaid = true ∧ hd.heap_39 = hd.heap_39 → True := by
  k_fill
  exact fun _ => trivial
section
variable {prog : Program} {w : World} {dp un : Nat} {gd : Option (List Code)} {s : Shared} {base : Heap} {fr : List Env} {p : Program} {loose : List Str} {mean : ExcName → Option Value} {mg mb : Str → Option Value} {Q E : Value → Shared → Prop} {h₀ : Heap} {L : Addr} {m : PySem.Str → Option Value} {news : List (Addr × Obj)} {A : Around} {t u : Tok}
theorem host2_small {n : Nat} (h : (digs n).length ≤ 1000) : (host2 n).length ≤ 1000000 := by rw [host2_len]; omega
theorem reach2_at {n : Nat} (M : Amb (hd.heap_39 w.params) p loose mean mg mb (At dp un gd fr) base fr s.heap) (hdp : dp + 1 < recursionLimit) (hg : (digs n).length ≤ 1000)
   (h : ∀ h' t' tk', s.heap.StaysIn h' → Q (.str (S (reachL (host2 n))) t') { s with heap := h', toks := tk' }) : wpAny (model prog w) (At dp un gd fr) (call (.ref 64) [.str (S (host2 n)) t]) Q E s := by
  obtain ⟨c, r, e, hc⟩ := host2_head n
  have ho := host2_okT n
  have hl := host2_small hg
  have hla := host2_last n
  rw [e] at ho hl hla h ⊢
  exact reach_ok M hdp ho hl hc hla (by decide) h
theorem cons_tail {value slice : Expr} {c : Nat} {l : List Nat} {t ui : Tok} (hF : Fr h₀ L s.heap m) (hN : News h₀ L s.heap news) (hi : (c :: l).length ≤ 1000000)
    (h : ∀ h' t' tk', Fr h₀ L h' m → News h₀ L h' news → Q (.str (S l) t') { s with heap := h', toks := tk' })
    (hs : subscripted slice false (.str (S (c :: l)) t) (.ref s.heap.objs.size) = operate [.ref s.heap.objs.size, .str (S (c :: l)) t] (getItem (.str (S (c :: l)) t) (.ref s.heap.objs.size)) := by with_unfolding_all rfl)
    (ht : ∀ r, letTemporaryGo value (.str (S (c :: l)) t) r = pure () := by intro _; with_unfolding_all rfl) :
    wpAny (model prog w) A (subscriptTail value slice (.str (S (c :: l)) t) (.ref s.heap.objs.size)) Q E { s with heap := s.heap.push { cls := .type "slice", data := .fields #[.int 1 ui, .none, .none] } } :=
  r_from hF hN (by decide) (by rw [List.length_cons]; omega) hi h hs ht
theorem r_eT {l k : List Nat} (e : l = k) (h : Q (.bool true) s) : wpAny (model prog w) A (compareOp .Eq (.str (S l) t) (.str (S k) u)) Q E s := r_eq (by rw [decide_eq_true e]; exact h)
theorem r_eF {l k : List Nat} (e : l ≠ k) (h : Q (.bool false) s) : wpAny (model prog w) A (compareOp .Eq (.str (S l) t) (.str (S k) u)) Q E s := r_eq (by rw [decide_eq_false e]; exact h)
theorem r_eIT {a b : Int} (e : a = b) (h : Q (.bool true) s) : wpAny (model prog w) A (compareOp .Eq (.int a t) (.int b u)) Q E s := PyProof.Rows.eq_int (by subst e; simpa using h)
theorem r_eIF {a b : Int} (e : a ≠ b) (h : Q (.bool false) s) : wpAny (model prog w) A (compareOp .Eq (.int a t) (.int b u)) Q E s := PyProof.Rows.eq_int (by rw [beq_eq_false_iff_ne.mpr e]; exact h)
end
theorem odd_eq (k : Nat) : ((k : Int).fmod 2 == 1) = (k % 2 == 1) := by
  rw [show (2 : Int) = ((2 : Nat) : Int) from rfl, fmodN]
  exact beqN (k % 2) 1
theorem lostZ (st : Nat) : [Value.bool true, Value.bool ((((0 : Nat) : Int).fmod 2 == 1) != false)] = [lost1 st 0, lost2 st 0].map Value.bool := by
  rw [lost1_zero, lost2_zero]; rfl
theorem lostL {st n c k : Nat} (_ : 0 ≤ c) (h16 : c < 16) (h0 : c ≠ 0) (hp : passN st n = k + 0) (hl : leftN st n = c) (hn0 : n = 0 → c = 0) (hfm : (((65 + c % 16 : Nat) : Int) - 65).fmod st = ((c % st : Nat) : Int)) :
    [Value.bool ((k : Int).fmod 2 == 1), Value.bool (((k : Int).fmod 2 == 1) != ((((65 + c % 16 : Nat) : Int) - 65).fmod st == 1))] = [lost1 st n, lost2 st n].map Value.bool := by
  have hn : n ≠ 0 := fun e => h0 (hn0 e)
  have e1 : ((((65 + c % 16 : Nat) : Int) - 65).fmod st == 1) = decide (c % st = 1) := by
    rw [hfm, Bool.eq_iff_iff, beq_iff_eq, decide_eq_true_eq]; omega
  rw [odd_eq, e1]
  unfold lost1 lost2 first2
  rw [hp, hl, beq_eq_false_iff_ne.mpr hn, decide_eq_true h0, decide_eq_true h16, Bool.true_and, Bool.true_and, Nat.add_zero, Bool.false_or]
  rfl
theorem lostM {st n c k : Nat} (h16 : 16 ≤ c) (hn0 : n = 0 → c = 0) (h0 : c ≠ 0) (hp : passN st n = k + 0) (hl : leftN st n = c) :
    [Value.bool ((k : Int).fmod 2 == 1), Value.bool (((k : Int).fmod 2 == 1) != false)] = [lost1 st n, lost2 st n].map Value.bool := by
  have hn : n ≠ 0 := fun e => h0 (hn0 e)
  rw [odd_eq]
  unfold lost1 lost2 first2
  rw [hp, hl, beq_eq_false_iff_ne.mpr hn, decide_eq_false (show ¬ c < 16 by omega), Bool.and_false, Bool.false_and, Nat.add_zero, Bool.false_or]
  rfl
local macro_rules | `(tactic| walk_at "eval Name") => `(tactic| (k_here; k_dflt (refine' ld ?k1 ?k2 ?_; (case k1 => k_asm); (case k2 => assumption); k_whole)))
local macro_rules | `(tactic| walk_at "exec While BoolOp cons nil") => `(tactic| (k_here; refine Stop.mk ?_))
local macro_rules | `(tactic| walk_at "eval Constant str") => `(tactic| ((first | with_reducible refine r_const sDotLocal ?_ | with_reducible refine r_const sLocal ?_); intro _ _; (try dsimp only)))
local macro_rules | `(tactic| walk_at "call ref") => `(tactic| (k_here; (with_reducible show wpAny _ _ (call (Value.ref 64) [Value.str (S (host2 _)) _]) _ _ _); k_dflt (refine' reach2_at (ambOf ?B ?F ?X ?T ?hA ?hf ?hk) ?d ?x ?_; (case B => k_asm); (case hA => exact rfl); (case hf => exact rfl); (case hk => exact rfl); (case F => k_asm); (case X => k_asm); (case T => k_asm); (case d => first | ((try dsimp only); omega) | ktr_room); (case x => assumption); intro h' t' tk' st'; (have F' := frStays (by k_asm) st'); (have N' := newsStays (by k_asm) st'); (try dsimp only); (try k_sweep))))
local macro_rules | `(tactic| walk_at "subscriptTail Name Constant str int") => `(tactic| (k_here; (with_reducible show wpAny _ _ (subscriptTail _ _ (Value.str (S (_ :: _)) _) (Value.int 0 _)) _ _ _); k_dflt (refine r_item0 (by assumption) ?_); intro _ _; (try dsimp only)))
local macro_rules | `(tactic| walk_at "subscriptTail") => `(tactic| (k_here; (with_reducible show wpAny _ _ (subscriptTail _ (Expr.Slice _ _ _ _) (Value.str (S (_ :: _)) _) (Value.ref _)) _ _ _); k_dflt (refine cons_tail (by k_asm) (by k_asm) (by assumption) ?_); intro h' t' tk' F' N'; (try dsimp only); (try k_sweep)))
local macro_rules | `(tactic| walk_at "compareOp NotEq str str") => `(tactic| (k_here; k_dflt (first | refine r_neT (by assumption) ?_ | refine r_neF rfl ?_ | refine r_neF (by assumption) ?_); (try dsimp only)))
local macro_rules | `(tactic| walk_at "compareOp Eq str str") => `(tactic| (k_here; k_dflt (first | refine r_eF (by assumption) ?_ | refine r_eT rfl ?_ | refine r_eT (by assumption) ?_); (try dsimp only)))
local macro_rules | `(tactic| walk_at "compareOp Eq int int") => `(tactic| (k_here; k_dflt (first | refine r_eIF (by with_reducible assumption) ?_ | refine r_eIT (by with_reducible assumption) ?_); (try dsimp only)))
local macro_rules | `(tactic| walk_at "call builtin:ord") => `(tactic| (k_here; k_dflt (refine r_ord ?_); intro _ _; (try dsimp only)))
local macro_rules | `(tactic| walk_at "binaryOp Mod int int") => `(tactic| (k_here; k_dflt (refine r_mod (by with_reducible assumption) ?_); intro _ _; (try dsimp only)))
section
variable {prog : Program} {w : World} {dp un : Nat} {gd : Option (List Code)} {s : Shared} {base : Heap} {fr : List Env} {p : Program} {loose : List Str} {mean : ExcName → Option Value} {mg mb : Str → Option Value} {Q E : Value → Shared → Prop}
theorem lost_at {n st : Nat} {t u : Tok} (M : Amb (hd.heap_39 w.params) p loose mean mg mb (At dp un gd fr) base fr s.heap) (hdp : dp + 3 < recursionLimit) (hst : isStep st) (hn : (digs n).length ≤ 8)
   (h : ∀ h' D tk', s.heap.StaysIn h' → s.heap.get? D = none → h'.get? D = some { cls := .type "list", data := .seq ([lost1 st n, lost2 st n].map Value.bool).toArray 0 } → Q (.ref D) { s with heap := h', toks := tk' }) : wpAny (model prog w) (At dp un gd fr) (call (.ref 95) [.str (S (host2 n)) t, .int st u]) Q E s := by
  have hn1 : (digs n).length ≤ 1000 := by omega
  have hpl := pass_len st n
  refine wpAny_call ?_
  k_dflt (refine' callP (binds := [(Str.ofString "name", Value.str (S (host2 n)) t), (Str.ofString "step", Value.int st u)]) M ?k6 ?k7 ?k8 ?k9 ?kB ?_ ?c2 ?c3 ?c4 ?c5; (case k6 => k_is); (case k7 => k_is); (case k8 => (show dp < recursionLimit; omega)); (case k9 => exact BindsTo.of_eq rfl); (case c5 => decide); (case kB => exact locs rfl); (case c2 => exact rfl); (case c3 => exact rfl); (case c4 => exact rfl))
  intro L' h₁ F' N' B' X' T'
  dsimp only
  w_on
  w_strict (k_fold; (repeat' (first | (k_unfold; (try dsimp only)) | walk1 | (dsimp only; walk1) | (leave1; (try dsimp only)))))
  rename Fr _ _ _ _ => F9
  rename News _ _ _ _ => N9
  refine While_inv2 (fun q m news => ∃ (k c : Nat) (t1 t2 t3 t4 : Tok), q = passN st c ∧ passN st n = k + passN st c ∧ leftN st n = leftN st c ∧ (digs c).length ≤ 8 ∧ (c = 0 → n = 0 ∧ k = 0) ∧ (n = 0 → c = 0) ∧ news = [] ∧ m (Str.ofString "passed") = some (.int k t1) ∧ m (Str.ofString "name") = some (.str (S (host2 c)) t2) ∧ m (Str.ofString "up") = some (.str (S (reachL (host2 c))) t3) ∧ m (Str.ofString "step") = some (.int st t4)) (n₀ := passN st n) F9 N9
    ⟨0, n, _, _, _, _, rfl, by omega, rfl, hn, fun e => ⟨e, rfl⟩, fun e => e, rfl, rfl, rfl, rfl, rfl⟩ ?_ (fun _ _ x => x.elim)
  clear F9 N9
  rintro q m₁ news₁ h₁ tk₁ F₁ N₁ ⟨k, c, t1, t2, t3, t4, rfl, hp, hl, hc8, hc0, hn0, rfl, e1, e2, e3, e4⟩
  have hst0 : (st : Int) ≠ 0 := by rcases hst with rfl | rfl | rfl | rfl <;> decide
  have hk9 : (k : Int) < 9 := by omega
  by_cases h0 : c = 0
  · obtain ⟨rfl, rfl⟩ := hc0 h0
    subst h0
    rw [reach2_zero] at e3
    rw [host2_zero] at e2 e3
    have hne : loc5 ≠ [46, 108, 111, 99, 97, 108] := by decide
    w_strict (repeat' (first | (k_unfold; (try dsimp only)) | walk1 | (dsimp only; walk1) | (leave1; (try dsimp only))))
    rename Fr _ _ _ _ => F9
    rename News _ _ _ _ => N9
    have z := N9 _ (.head _)
    exact h _ _ _ F9.keep z.2.2 (z.1.trans (congrArg (fun l : List Value => some ({ cls := .type "list", data := .seq l.toArray 0 } : Obj)) (lostZ st)))
  have hcl : ((65 + c % 16) :: 46 :: host2 (c / 16)).length ≤ 1000000 := by
    rw [← host2_pos h0]; exact host2_small (by omega)
  have hcl2 : (46 :: host2 (c / 16)).length ≤ 1000000 := by
    rw [List.length_cons] at hcl ⊢
    exact Nat.le_trans (Nat.le_succ _) hcl
  have hdc : (digs (c / 16)).length ≤ 8 := by
    have := digs_pos h0
    rw [this, List.length_append] at hc8
    omega
  have hdc1 : (digs (c / 16)).length ≤ 1000 := by omega
  rw [reach2_pos h0] at e3
  rw [host2_pos h0] at e2
  have hne : (46 :: host2 (c / 16)) ≠ (65 + c % 16) :: 46 :: host2 (c / 16) := by
    intro e; injection e with e _; omega
  have hnl : (65 + c % 16) :: 46 :: host2 (c / 16) ≠ [108, 111, 99, 97, 108] := by
    intro e; injection e with e _; omega
  have hfm : (((65 + c % 16 : Nat) : Int) - 65).fmod st = ((c % st : Nat) : Int) := by
    rw [show ((65 + c % 16 : Nat) : Int) - 65 = ((c % 16 : Nat) : Int) by omega, fmodN]
    rcases hst with rfl | rfl | rfl | rfl <;> omega
  by_cases h16 : c < 16
  · have hq : c / 16 = 0 := by omega
    rw [hq, host2_zero] at e3
    w_strict (repeat' (first | (k_unfold; (try dsimp only)) | walk1 | (dsimp only; walk1) | (leave1; (try dsimp only))))
    rename Fr _ _ _ _ => F9
    rename News _ _ _ _ => N9
    have z := N9 _ (.head _)
    exact h _ _ _ F9.keep z.2.2 (z.1.trans (congrArg (fun l : List Value => some ({ cls := .type "list", data := .seq l.toArray 0 } : Obj)) (lostL (by omega) h16 h0 (by rw [hp, passN_no (by omega)]) (by rw [hl, leftN_no (by omega)]) hn0 hfm)))
  have hnd : 46 :: host2 (c / 16) ≠ [46, 108, 111, 99, 97, 108] := by
    intro e; injection e with _ e
    have := host2_loc.mp (show host2 (c / 16) = loc5 from e)
    omega
  by_cases hm : c % st = 0
  · rw [hm] at hfm
    have hfm0 : (((65 + c % 16 : Nat) : Int) - 65).fmod st = 0 := hfm
    w_strict (repeat' (first | (k_unfold; (try dsimp only)) | walk1 | (dsimp only; walk1) | (leave1; (try dsimp only))))
    rename Fr _ _ _ _ => F9
    have hpy := passN_yes (st := st) (n := c) ⟨by omega, hm⟩
    exact ⟨_, _, _, [], passN st (c / 16), rfl, F9, News.nil, by omega, k + 1, c / 16, _, _, _, _, rfl, by omega, by rw [hl, leftN_yes ⟨by omega, hm⟩], hdc, fun e => by omega, fun e => by have := hn0 e; omega, rfl, rfl, rfl, rfl, e4⟩
  · have hfm1 : (((65 + c % 16 : Nat) : Int) - 65).fmod st ≠ 0 := by rw [hfm]; omega
    w_strict (repeat' (first | (k_unfold; (try dsimp only)) | walk1 | (dsimp only; walk1) | (leave1; (try dsimp only))))
    rename Fr _ _ _ _ => F9
    rename News _ _ _ _ => N9
    have z := N9 _ (.head _)
    exact h _ _ _ F9.keep z.2.2 (z.1.trans (congrArg (fun l : List Value => some ({ cls := .type "list", data := .seq l.toArray 0 } : Obj)) (lostM (by omega) hn0 h0 (by rw [hp, passN_no (by omega)]) (by rw [hl, leftN_no (by omega)]))))
end
end Mine

end PartH6
section PartH5
open PySem PySem.W PySem.Calls PyProof.Rows
set_option maxRecDepth 100000
set_option maxHeartbeats 6000000
set_option pp.deepTerms false
set_option pp.deepTerms.threshold 8
namespace Mine
local macro_rules | `(tactic| walk_at "zz none") => `(tactic| fail "none")
local macro_rules | `(tactic| walk_at "zz none") => `(tactic| fail "none")
local macro_rules | `(tactic| walk_at "zz none") => `(tactic| fail "none")
local macro_rules | `(tactic| walk_at "zz none") => `(tactic| fail "none")
local macro_rules | `(tactic| walk_at "zz none") => `(tactic| fail "none")
local macro_rules | `(tactic| walk_at "zz none") => `(tactic| fail "none")
local macro_rules | `(tactic| walk_at "zz none") => `(tactic| fail "none")
local macro_rules | `(tactic| walk_at "zz none") => `(tactic| fail "none")
local macro_rules | `(tactic| walk_at "zz none") => `(tactic| fail "none")
local macro_rules | `(tactic| walk_at "zz none") => `(tactic| fail "none")
local macro_rules | `(tactic| walk_at "zz none") => `(tactic| fail "none")
local macro_rules | `(tactic| walk_at "zz none") => `(tactic| fail "none")
local macro_rules | `(tactic| walk_at "zz none") => `(tactic| fail "none")
local macro_rules | `(tactic| walk_at "zz none") => `(tactic| fail "none")
local macro_rules | `(tactic| walk_at "zz none") => `(tactic| fail "none")
local macro_rules | `(tactic| walk_at "zz none") => `(tactic| fail "none")
local macro_rules | `(tactic| walk_at "zz none") => `(tactic| fail "none")
local macro_rules | `(tactic| walk_at "zz none") => `(tactic| fail "none")
local macro_rules | `(tactic| walk_at "zz none") => `(tactic| fail "none")
local macro_rules | `(tactic| walk_at "zz none") => `(tactic| fail "none")
local macro_rules | `(tactic| walk_at "zz none") => `(tactic| fail "none")
local macro_rules | `(tactic| walk_at "zz none") => `(tactic| fail "none")
local macro_rules | `(tactic| walk_at "zz none") => `(tactic| fail "none")
local macro_rules | `(tactic| walk_at "zz none") => `(tactic| fail "none")
local macro_rules | `(tactic| walk_at "zz none") => `(tactic| fail "none")
local macro_rules | `(tactic| walk_at "zz none") => `(tactic| fail "none")
local macro_rules | `(tactic| walk_at "zz none") => `(tactic| fail "none")
local macro_rules | `(tactic| walk_at "zz none") => `(tactic| fail "none")
local macro_rules | `(tactic| walk_at "zz none") => `(tactic| fail "none")
local macro_rules | `(tactic| walk_at "zz none") => `(tactic| fail "none")
local macro_rules | `(tactic| walk_at "zz none") => `(tactic| fail "none")
local macro_rules | `(tactic| walk_at "zz none") => `(tactic| fail "none")
local macro_rules | `(tactic| walk_at "zz none") => `(tactic| fail "none")
local macro_rules | `(tactic| walk_at "zz none") => `(tactic| fail "none")
local macro_rules | `(tactic| walk_at "zz none") => `(tactic| fail "none")
local macro_rules | `(tactic| walk_at "zz none") => `(tactic| fail "none")
local macro_rules | `(tactic| walk_at "zz none") => `(tactic| fail "none")
local macro_rules | `(tactic| walk_at "zz none") => `(tactic| fail "none")
local macro_rules | `(tactic| walk_at "zz none") => `(tactic| fail "none")
local macro_rules | `(tactic| walk_at "zz none") => `(tactic| fail "none")
local macro_rules | `(tactic| walk_at "zz none") => `(tactic| fail "none")
local macro_rules | `(tactic| walk_at "zz none") => `(tactic| fail "none")
local macro_rules | `(tactic| walk_at "zz none") => `(tactic| fail "none")
local macro_rules | `(tactic| walk_at "zz none") => `(tactic| fail "none")
local macro_rules | `(tactic| walk_at "zz none") => `(tactic| fail "none")
local macro_rules | `(tactic| walk_at "zz none") => `(tactic| fail "none")
local macro_rules | `(tactic| walk_at "zz none") => `(tactic| fail "none")
local macro_rules | `(tactic| walk_at "zz none") => `(tactic| fail "none")
theorem fillh5 : PySem.Challenge.rw_rl0024_02.wellSaid = true ∧ hd.heap_39 = hd.heap_39 → True := by
  k_fill
  exact fun _ => trivial
section
variable {prog : Program} {w : World} {dp un : Nat} {gd : Option (List Code)} {s : Shared} {base : Heap} {fr : List Env} {p : Program} {loose : List Str} {mean : ExcName → Option Value} {mg mb : Str → Option Value} {Q E : Value → Shared → Prop} {h₀ : Heap} {L : Addr} {m : PySem.Str → Option Value} {news : List (Addr × Obj)} {A : Around} {t u : Tok}
theorem udmE {l k : List Nat} {b : Bool} {t u : Tok} (M : Amb (hd.heap_39 w.params) p loose mean mg mb (At dp un gd fr) base fr s.heap) (hdp : dp + 1 < recursionLimit) (hx : okT l ∧ l.length ≤ 1000000) (hy : okT k ∧ k.length ≤ 1000000) (e : udmL l k = b)
   (h : ∀ h' tk', s.heap.StaysIn h' → Q (.bool b) { s with heap := h', toks := tk' }) : wpAny (model prog w) (At dp un gd fr) (call (.ref 57) [.str (S l) t, .str (S k) u]) Q E s := udm M hdp hx.1 hx.2 hy.1 hy.2 (by rw [e]; exact h)
/-- the host of a number, or of what is left below nought -/
theorem host2_to {i : Int} {n : Nat} {t : Tok} (M : Amb (hd.heap_39 w.params) p loose mean mg mb (At dp un gd fr) base fr s.heap) (hdp : dp + 1 < recursionLimit) (hi : i.natAbs = n ∧ (digs n).length ≤ 1000)
   (h : ∀ h' t' tk', s.heap.StaysIn h' → Q (.str (S (host2 n)) t') { s with heap := h', toks := tk' }) : wpAny (model prog w) (At dp un gd fr) (call (.ref 76) [.int i t]) Q E s := by
  obtain ⟨rfl, hi⟩ := hi
  exact host2_at M hdp hi h
theorem r_fdiv {a b : Int} (hb : b ≠ 0) (hb2 : b.natAbs < 2 ^ 60) (h : ∀ t' tk', Q (.int (a.fdiv b) t') { s with toks := tk' }) : wpAny (model prog w) A (binaryOp .FloorDiv (.int a t) (.int b u)) Q E s := PyProof.Rows.floordiv_int hb (h _ _) (hp := .inl (PyProof.noPylong_of_log2 (Nat.lt_trans ((Nat.log2_lt (by omega)).mpr hb2) (by decide))))
theorem ints_idx {f : Nat → Int} : ∀ {ys : List Value} {n : Nat}, ys.length = n → (∀ (i : Nat) (z : Value), ys[i]? = some z → ∃ t, z = .int (f i) t) → IntsAre ys ((List.range n).map f) := by
  intro ys
  induction ys generalizing f with
  | nil => rintro n rfl _; exact .nil
  | cons y ys ih =>
    rintro n rfl h
    obtain ⟨t, rfl⟩ := h 0 y rfl
    rw [List.length_cons, List.range_succ_eq_map, List.map_cons, List.map_map]
    exact .cons _ _ (ih (f := f ∘ Nat.succ) rfl fun i z hz => h (i + 1) z (by simpa using hz))
end
theorem fig_eq (d i : Nat) : (((65 + d : Nat) : Int) - 65) * 16 ^ ((i : Nat) : Int).toNat = ((d * 16 ^ (0 + i) : Nat) : Int) := by
  rw [show ((65 + d : Nat) : Int) - 65 = (d : Int) by omega, Int.toNat_natCast, Nat.zero_add, Int.natCast_mul, Int.natCast_pow]; rfl
theorem lad2_map (n len : Nat) : (((List.range len).map fun i => (1 : Int) + ((i : Nat) : Int)).map fun a => ((n / 16 ^ a.toNat : Nat) : Int)).map (fun a => 46 :: host2 a.natAbs) = lad2 n len := by
  unfold lad2
  rw [List.map_map, List.map_map]
  refine List.map_congr_left fun j _ => ?_
  show 46 :: host2 (((n / 16 ^ ((1 : Int) + (j : Int)).toNat : Nat) : Int)).natAbs = _
  rw [Int.natAbs_natCast, show ((1 : Int) + (j : Int)).toNat = j + 1 by omega]
theorem fdiv_pow (n k : Nat) : (n : Int).fdiv (16 ^ k) = ((n / 16 ^ k : Nat) : Int) := by
  rw [Int.fdiv_eq_ediv_of_nonneg _ (Int.pow_nonneg (by decide)), Int.natCast_ediv, Int.natCast_pow]; rfl
theorem pow_small {k : Nat} (h : k ≤ 8) : (16 : Int) ^ k ≠ 0 ∧ ((16 : Int) ^ k).natAbs < 2 ^ 60 := by
  have : ∀ k : Nat, k ≤ 8 → (16 : Int) ^ k ≠ 0 ∧ ((16 : Int) ^ k).natAbs < 2 ^ 60 := by decide
  exact this k h
local macro_rules | `(tactic| walk_at "eval Name") => `(tactic| (k_here; k_dflt (first
  | (refine' nmL ?k1 ?k2 ?_; (case k1 => k_asm); (case k2 => assumption); k_whole)
  | (refine' nmK ?k1 ?k2 ?k3 ?k4 ?_; (case k1 => k_asm); (case k2 => k_asm); (case k3 => k_asm); (case k4 => k_is); k_whole)
  | (refine' nmB ?k1 ?k2 ?k3 ?k4 ?k5 ?k6 ?_; (case k1 => k_asm); (case k2 => k_asm); (case k3 => k_asm); (case k4 => k_is); (case k5 => boot_by_name); (case k6 => decide); k_whole)
  | (refine' nmC ?k1 ?k2 ?k3 ?k4 ?_; (case k1 => k_asm); (case k2 => exact rfl); (case k3 => k_mem); (case k4 => assumption); k_whole)
  | (refine' ldQ ?k1 ?k2 ?_; (case k1 => k_asm); (case k2 => assumption); k_whole))))
local macro_rules | `(tactic| walk_at "exec While BoolOp cons nil") => `(tactic| (k_here; refine Stop.mk ?_))
local macro_rules | `(tactic| walk_at "eval ListComp") => `(tactic| (k_here; refine Stop.mk ?_))
local macro_rules | `(tactic| walk_at "exec Assign cons ListComp") => `(tactic| (k_here; refine Stop.mk ?_))
local macro_rules | `(tactic| walk_at "compareOp NotEq ref ref") => `(tactic| (k_here; refine Stop.mk ?_))
local macro_rules | `(tactic| walk_at "compareOp Eq ref ref") => `(tactic| (k_here; refine Stop.mk ?_))
local macro_rules | `(tactic| walk_at "call type:enumerate") => `(tactic| (k_here; refine Stop.mk ?_))
local macro_rules | `(tactic| walk_at "call builtin:sum") => `(tactic| (k_here; refine Stop.mk ?_))
local macro_rules | `(tactic| walk_at "call builtin:str.split") => `(tactic| (k_here; refine Stop.mk ?_))
local macro_rules | `(tactic| walk_at "call builtin:list.append") => `(tactic| (k_here; refine Stop.mk ?_))
local macro_rules | `(tactic| walk_at "eval Constant str") => `(tactic| ((first | with_reducible refine r_const sDot ?_); intro _ _; (try dsimp only)))
local macro_rules | `(tactic| walk_at "call ref") => `(tactic| (k_here; (with_reducible show wpAny _ _ (call (Value.ref 64) [Value.str (S (host2 _)) _]) _ _ _); k_dflt (refine' reach2_at (ambOf ?B ?F ?X ?T ?hA ?hf ?hk) ?d ?x ?_; (case B => k_asm); (case hA => exact rfl); (case hf => exact rfl); (case hk => exact rfl); (case F => k_asm); (case X => k_asm); (case T => k_asm); (case d => first | ((try dsimp only); omega) | ktr_room); (case x => assumption); intro h' t' tk' st'; (have F' := frStays (by k_asm) st'); (have N' := newsStays (by k_asm) st'); (try dsimp only); (try k_sweep))))
local macro_rules | `(tactic| walk_at "call ref") => `(tactic| (k_here; (with_reducible show wpAny _ _ (call (Value.ref 57) _) _ _ _); k_dflt (refine' udmE (ambOf ?B ?F ?X ?T ?hA ?hf ?hk) ?d ?x ?y ?e ?_; (case B => k_asm); (case hA => exact rfl); (case hf => exact rfl); (case hk => exact rfl); (case F => k_asm); (case X => k_asm); (case T => k_asm); (case d => first | ((try dsimp only); omega) | ktr_room); (case x => assumption); (case y => assumption); (case e => assumption); intro h' tk' st'; (have F' := frStays (by k_asm) st'); (have N' := newsStays (by k_asm) st'); (try dsimp only); (try k_sweep))))
local macro_rules | `(tactic| walk_at "call ref") => `(tactic| (k_here; (with_reducible show wpAny _ _ (call (Value.ref 83) _) _ _ _); k_dflt (refine' letters_at (ambOf ?B ?F ?X ?T ?hA ?hf ?hk) ?d ?x ?_; (case B => k_asm); (case hA => exact rfl); (case hf => exact rfl); (case hk => exact rfl); (case F => k_asm); (case X => k_asm); (case T => k_asm); (case d => first | ((try dsimp only); omega) | ktr_room); (case x => assumption); intro h' t' tk' st'; (have F' := frStays (by k_asm) st'); (have N' := newsStays (by k_asm) st'); (try dsimp only); (try k_sweep))))
local macro_rules | `(tactic| walk_at "call ref") => `(tactic| (k_here; (with_reducible show wpAny _ _ (call (Value.ref 76) _) _ _ _); k_dflt (refine' host2_to (ambOf ?B ?F ?X ?T ?hA ?hf ?hk) ?d ?x ?_; (case B => k_asm); (case hA => exact rfl); (case hf => exact rfl); (case hk => exact rfl); (case F => k_asm); (case X => k_asm); (case T => k_asm); (case d => first | ((try dsimp only); omega) | ktr_room); (case x => assumption); intro h' t' tk' st'; (have F' := frStays (by k_asm) st'); (have N' := newsStays (by k_asm) st'); (try dsimp only); (try k_sweep))))
local macro_rules | `(tactic| walk_at "subscriptTail") => `(tactic| (k_here; (with_reducible show wpAny _ _ (subscriptTail _ (Expr.Slice _ _ _ _) (Value.str (S (_ :: _)) _) (Value.ref _)) _ _ _); k_dflt (refine cons_tail (by k_asm) (by k_asm) (by assumption) ?_); intro h' t' tk' F' N'; (try dsimp only); (try k_sweep)))
local macro_rules | `(tactic| walk_at "subscriptTail") => `(tactic| (k_here; (with_reducible show wpAny _ _ (subscriptTail _ (Expr.Slice _ _ _ _) (Value.ref _) (Value.ref _)) _ _ _); refine Stop.mk ?_))
local macro_rules | `(tactic| walk_at "compareOp NotEq str str") => `(tactic| (k_here; k_dflt (first | refine r_neT (by assumption) ?_ | refine r_neF rfl ?_); (try dsimp only)))
local macro_rules | `(tactic| walk_at "compareOp Eq str str") => `(tactic| (k_here; k_dflt (first | refine r_eF (by assumption) ?_ | refine r_eT rfl ?_); (try dsimp only)))
local macro_rules | `(tactic| walk_at "compareOp Eq int int") => `(tactic| (k_here; k_dflt (refine r_eIT rfl ?_); (try dsimp only)))
local macro_rules | `(tactic| walk_at "compareOp IsNot bool bool") => `(tactic| (k_here; refine r_isntF rfl ?_))
local macro_rules | `(tactic| walk_at "call builtin:ord") => `(tactic| (k_here; k_dflt (refine r_ord ?_); intro _ _; (try dsimp only)))
local macro_rules | `(tactic| walk_at "call builtin:len") => `(tactic| (k_here; (with_reducible show wpAny _ _ (call (Value.builtin "len") [Value.ref _]) _ _ _); k_dflt (refine' r_llen ?N ?m ?z ?_; (case N => k_asm); (case m => k_mem); (case z => omega); intro t' tk'; (try dsimp only))))
local macro_rules | `(tactic| walk_at "call builtin:len") => `(tactic| (k_here; (with_reducible show wpAny _ _ (call (Value.builtin "len") [Value.str (S _) _]) _ _ _); k_dflt (refine r_len (by assumption) ?_); intro _ _; (try dsimp only)))
local macro_rules | `(tactic| walk_at "binaryOp Pow int int") => `(tactic| (k_here; k_dflt (refine r_pow (by omega) (by omega) (by decide) ?_); intro _ _; (try dsimp only)))
local macro_rules | `(tactic| walk_at "binaryOp Mult int int") => `(tactic| (k_here; k_dflt (refine r_mul (by omega) ?_); intro _ _; (try dsimp only)))
local macro_rules | `(tactic| walk_at "binaryOp FloorDiv int int") => `(tactic| (k_here; k_dflt (refine r_fdiv (by assumption) (by assumption) ?_); intro _ _; (try dsimp only)))
local macro_rules | `(tactic| walk_at "binaryOp Add str str") => `(tactic| (k_here; k_dflt (refine r_add (by assumption) ?_); intro _ _; (try dsimp only)))
section
variable {prog : Program} {w : World} {dp un : Nat} {gd : Option (List Code)} {s : Shared} {base : Heap} {fr : List Env} {p : Program} {loose : List Str} {mean : ExcName → Option Value} {mg mb : Str → Option Value} {Q E : Value → Shared → Prop}
theorem named_at {n : Nat} {t u : Tok} (M : Amb (hd.heap_39 w.params) p loose mean mg mb (At dp un gd fr) base fr s.heap) (hdp : dp + 4 < recursionLimit) (hun : un + 200 < cLine) (hn : n ≠ 0) (hl8 : (digs n).length ≤ 8)
   (h : ∀ h' tk', s.heap.StaysIn h' → Q (.bool true) { s with heap := h', toks := tk' }) : wpAny (model prog w) (At dp un gd fr) (call (.ref 88) [.str (S (host2 n)) t, .int n u]) Q E s := by
  have hl1 : (digs n).length ≤ 1000 := by omega
  have hl9 : (digs n).length ≤ 900 := by omega
  have hsm := host2_small hl1
  refine wpAny_call ?_
  k_dflt (refine' callC (binds := [(Str.ofString "name", Value.str (S (host2 n)) t), (Str.ofString "number", Value.int n u)]) M ?k6 ?k7 ?k8 ?k9 ?kB ?kD ?_ ?c2 ?c3 ?c4; (case k6 => k_is); (case k7 => k_is); (case k8 => (show dp < recursionLimit; omega)); (case k9 => exact BindsTo.of_eq rfl); (case kB => exact rfl); (case kD => decide +kernel); (case c2 => exact rfl); (case c3 => exact rfl); (case c4 => exact rfl))
  intro L' h₁ tk cells F' N' Y' B' X' T'
  k_cells Y'
  w_on
  w_strict ((try dsimp only); (try k_fold); (repeat' (first | (k_unfold; (try dsimp only)) | walk1 | (dsimp only; walk1) | (leave1; (try dsimp only)))))
  rename Fr _ _ _ _ => F9
  rename News _ _ _ _ => N9
  rename _ ∧ _ => hap
  refine While_inv2 (fun q m news => ∃ (k c : Nat) (vs : List Value) (t1 t2 : Tok), q + k = (digs n).length ∧ TxtsAre vs (lad2 n k) ∧ news = [(_, { cls := .type "list", data := .seq vs.toArray c }), _, _] ∧
    m (Str.ofString "ladder") = some (.ref _) ∧ m (Str.ofString "place") = some (.str (S (host2 (n / 16 ^ k))) t1) ∧ m (Str.ofString "up") = some (.str (S (reachL (host2 (n / 16 ^ k)))) t2)) (n₀ := (digs n).length) F9 N9
    ⟨0, _, [], _, _, rfl, trivial, rfl, rfl, congrArg (fun x => some (Value.str (S (host2 x)) _)) (show n = n / 16 ^ 0 by simp), congrArg (fun x => some (Value.str (S (reachL (host2 x))) _)) (show n = n / 16 ^ 0 by simp)⟩ ?_ (fun _ _ x => x.elim)
  clear F9 N9
  rintro q m₂ news₂ h₃ tk₃ F₃ N₃ ⟨k, c, vs, t1, t2, hq, hL, rfl, e6, e7, e8⟩
  have hvk : vs.length = k := by rw [hL.len, lad2_len]
  rcases Nat.lt_or_ge k (digs n).length with hk | hk
  · have hc0 := div_ne hk
    have hdk := div_pow_succ n k
    have hlc : (digs (n / 16 ^ k)).length ≤ 8 := Nat.le_trans (digs_len (Nat.lt_of_le_of_lt (Nat.div_le_self _ _) (lt_digs2 n))) hl8
    have hlc2 : (digs (n / 16 ^ k / 16)).length ≤ 1000 := by
      have := digs_pos hc0
      rw [this, List.length_append] at hlc
      omega
    rw [reach2_pos hc0] at e8
    have hcl : (46 :: host2 (n / 16 ^ k / 16)).length ≤ 1000000 := by
      have := host2_len (n / 16 ^ k / 16)
      rw [List.length_cons, this]; omega
    have hne : (46 :: host2 (n / 16 ^ k / 16)) ≠ host2 (n / 16 ^ k) := by
      obtain ⟨x, r, e, hx⟩ := host2_head (n / 16 ^ k)
      rw [e]
      intro q; injection q with q _; exact hx q.symm
    have hlt : (vs.length : Int) < ((host2 n).length : Int) := by rw [host2_len]; omega
    w_strict (repeat' (first | (k_unfold; (try dsimp only)) | walk1 | (dsimp only; walk1) | (leave1; (try dsimp only))))
    refine r_append F₃ N₃ ?_ (by omega) ?_
    · simp only [List.forall_mem_cons, List.not_mem_nil, false_implies, implies_true, and_true]
      exact ⟨Nat.ne_of_lt hap.1, Nat.ne_of_lt hap.2⟩
    intro h₄ F₄ N₄
    w_strict (repeat' (first | (k_unfold; (try dsimp only)) | walk1 | (dsimp only; walk1) | (leave1; (try dsimp only))))
    rename Fr _ _ _ _ => F9
    rename News _ _ _ _ => N9
    refine ⟨_, _, _, _, q - 1, rfl, F9, N9, by omega, k + 1, _, _, _, _, by omega, ?_, rfl, e6, congrArg (fun x => some (Value.str (S (host2 x)) _)) hdk.symm, congrArg (fun x => some (Value.str (S (reachL (host2 x))) _)) hdk.symm⟩
    rw [lad2_succ, hdk]
    exact hL.app ⟨⟨_, rfl⟩, trivial⟩
  obtain rfl : k = (digs n).length := by omega
  rw [div_end] at e7 e8
  rw [reach2_zero] at e8
  w_strict (repeat' (first | (k_unfold; (try dsimp only)) | walk1 | (dsimp only; walk1) | (leave1; (try dsimp only))))
  refine' compE (cl := ?cl) ?a ?b ?c ?d ?e ?f ?_
  case a => with_unfolding_all rfl
  case b => decide
  case c => exact rfl
  case d => decide
  case e => exact rfl
  case f => intro _; exact rfl
  w_strict (repeat' (first | (k_unfold; (try dsimp only)) | walk1 | (dsimp only; walk1) | (leave1; (try dsimp only))))
  have hrg := lad2_under (n := n)
  refine compIt_src (srcTxts rfl (N₃ _ (.head _)).1 hL) F₃ N₃ (by rw [lad2_len]; exact fits6 (by omega)) (fun a _ b _ v => IsT.inj) (fun _ => false) (fun _ _ => True) ⟨?_, fun _ _ _ _ _ _ _ _ hp => absurd hp Bool.false_ne_true⟩ ?_
  · rintro C a v s₃ m₃ E' ha ⟨ta, rfl⟩ hm' F₁ N₁ F₄ N₄
    have hok : okT (host2 n) ∧ (host2 n).length ≤ 1000000 := ⟨host2_okT n, hsm⟩
    have hoa : okT a ∧ a.length ≤ 1000000 := ⟨(hrg a ha).2.1, by have := (hrg a ha).2.2; omega⟩
    have hu := (hrg a ha).1
    refine tests_one ?_
    w_strict (repeat' (first | (k_unfold; (try dsimp only)) | walk1 | (dsimp only; walk1) | (leave1; (try dsimp only))))
    exact keeps_of (by assumption)
  intro D1 c1 h1 tk1 ys1 F1 N1 off1 hP1
  rw [List.filter_eq_nil_iff.mpr (fun _ _ => Bool.false_ne_true)] at hP1
  cases hP1
  w_strict (repeat' (first | (k_unfold; (try dsimp only)) | walk1 | (dsimp only; walk1) | (leave1; (try dsimp only))))
  rename Fr _ _ _ _ => F9
  rename News _ _ _ _ => N9
  refine r_neInts (vs := []) (us := []) (N9 _ (.tail _ (.head _))).1 .nil (N9 _ (.head _)).1 .nil (by have := cLine_is; show un + 3 + 64 < cLine; omega) ?_
  have N8 := newsTail (newsTail N9)
  clear N9 hrg
  w_strict (repeat' (first | (k_unfold; (try dsimp only)) | walk1 | (dsimp only; walk1) | (leave1; (try dsimp only))))
  show wpAny _ _ _ _ _ _
  refine' compA (cl := [(Str.ofString "number", L' + 1 + 1)]) ?c1 ?c2 ?c3 ?c4 ?c5 ?c6 ?c7 ?c8 ?c9 ?_
  case c1 => with_unfolding_all rfl
  case c2 => with_unfolding_all rfl
  case c3 => decide
  case c4 => exact rfl
  case c5 => decide
  case c6 => exact rfl
  case c7 => exact rfl
  case c8 => exact rfl
  case c9 => intro _; exact rfl
  w_strict (repeat' (first | (k_unfold; (try dsimp only)) | walk1 | (dsimp only; walk1) | (leave1; (try dsimp only))))
  rename IsRange _ _ _ _ _ _ _ _ => hR
  rename Fr _ _ _ _ => F9
  rename News _ _ _ _ => N9
  have hRu := rangeUp (a := 1) (b := ((digs n).length : Int) + 1) (n := (digs n).length) (by omega) (by omega) (by omega)
  refine compItA_src (srcRange (n := (digs n).length) rfl hR hRu.1 hRu.2 rfl) rfl F9 N9 (by simp; exact fits6 (by omega)) (fun a _ b _ v => IsI.inj) (fun _ => true) (fun a y => IsI ((n / 16 ^ a.toNat : Nat) : Int) y) ⟨fun _ _ _ _ _ _ _ _ _ _ _ _ _ => tests_nil rfl, ?_⟩ ?_
  · rintro C a v s₃ m₃ E' ha ⟨ta, rfl⟩ _ hm' F₁ N₁ F₄ N₄
    obtain ⟨j, hj, rfl⟩ := List.mem_map.mp ha
    rw [List.mem_range] at hj
    have hpw := pow_small (k := (1 + (j : Int)).toNat) (by omega)
    obtain ⟨hpw0, hpw1⟩ := hpw
    w_strict (repeat' (first | (k_unfold; (try dsimp only)) | walk1 | (dsimp only; walk1) | (leave1; (try dsimp only))))
    · exact ⟨_, congrArg (fun x => Value.int x _) (fdiv_pow n _)⟩
    · exact keeps_of fun _ _ e => e
  intro D2 c2 h2 tk2 ys2 F2 N2 off2 hP2
  rw [List.filter_eq_self.mpr (fun _ _ => rfl)] at hP2
  have hys2 := intsAre_of hP2
  clear hP2 off2 hR hRu
  w_strict (repeat' (first | (k_unfold; (try dsimp only)) | walk1 | (dsimp only; walk1) | (leave1; (try dsimp only))))
  show wpAny _ _ _ _ _ _
  refine' compP (cl := []) ?c2 ?c3 ?c4 ?c5 ?_
  case c2 => with_unfolding_all rfl
  case c3 => exact rfl
  case c4 => decide
  case c5 => intro _; exact rfl
  w_strict (repeat' (first | (k_unfold; (try dsimp only)) | walk1 | (dsimp only; walk1) | (leave1; (try dsimp only))))
  rename Fr _ _ _ _ => F3
  rename News _ _ _ _ => N3
  have hlf := labs2_free n
  have hlp := labs2_pos hn
  refine r_split F3 N3 (e := ((join_labs2 n).symm.trans (congrArg joinD hlp))) (hf := by rw [← hlp]; exact hlf) hsm ?_
  rw [← hlp]
  intro D3 vs3 h3 k3 hT3 F4 N4 lt3
  w_strict (repeat' (first | (k_unfold; (try dsimp only)) | walk1 | (dsimp only; walk1) | (leave1; (try dsimp only))))
  have hD3 := isl (N4 _ (.head _)).1
  have hvs3 := hT3.len
  rw [labs2_len] at hvs3
  show wpAny _ _ _ _ _ _
  refine kba_turn (value' := Expr.Name (Str.ofString "q") ⟨0, 0, 0, 0⟩) (fun _ => rfl) ?_
  refine r_lpickS hD3 .none (.int _ _) .none (by decide) (by omega) ?_
  intro D5 h5 st5 fr5 ho5
  rw [pick_butLast] at ho5
  have F5 := frStays F4 st5
  have N5 := newsOf F4 N4 st5 fr5 ho5
  clear F4 N4 hD3 F3 N3
  w_strict (repeat' (first | (k_unfold; (try dsimp only)) | walk1 | (dsimp only; walk1) | (leave1; (try dsimp only))))
  have hlt5 : (vs3.take (vs3.length - 1)).length = (digs n).length := by rw [List.length_take]; omega
  have hlt6 : (vs3.take (vs3.length - 1)).length ≤ sizeLine := by rw [hlt5]; exact fits6 (by omega)
  show wpAny _ _ _ _ _ _
  refine' enum_comp (fun i v z => ∃ t, z = .int ((n / 16 ^ i % 16 * 16 ^ (0 + i) : Nat) : Int) t) ?c1 F5 N5 (isl ho5) ?c3 ?c4 ?c5 ?c6 ?c7 ?c8 ?_ ?_
  case c1 => exact rfl
  case c3 => decide
  case c4 => exact hlt6
  case c5 => decide
  case c6 => exact rfl
  case c7 => exact rfl
  case c8 => exact rfl
  · intro C i v t s₃ m₃ E' hv hma hmb F₁ N₁ F₃ N₃
    have hi := (List.getElem?_eq_some_iff.mp hv).1
    rw [hlt5] at hi
    rw [List.getElem?_take_of_lt (by omega)] at hv
    obtain ⟨l, hl, tv, rfl⟩ := hT3.at i v hv
    rw [labs2_at hi] at hl
    obtain rfl := Option.some.inj hl
    have hpw := (pow_small (k := i) (by omega)).2
    w_strict (repeat' (first | (k_unfold; (try dsimp only)) | walk1 | (dsimp only; walk1) | (leave1; (try dsimp only))))
    · exact congrArg (fun x => Value.int x _) (fig_eq _ i)
    · exact keeps_of fun _ _ e => e
  · intro D6 c6 h6 tk6 ys6 F6 N6 off6 hlen6 hG6
    rw [hlt5] at hlen6
    have hys6 := ints_idx (f := fun i => ((n / 16 ^ i % 16 * 16 ^ (0 + i) : Nat) : Int)) hlen6 fun i z hz => by
      have hi := (List.getElem?_eq_some_iff.mp hz).1
      obtain ⟨t, e⟩ := hG6 i z _ hz (List.getElem?_eq_getElem (by rw [hlt5]; omega))
      exact ⟨t, e⟩
    clear hG6
    have hD6 := isl (N6 _ (.head _)).1
    w_strict (repeat' (first | (k_unfold; (try dsimp only)) | walk1 | (dsimp only; walk1) | (leave1; (try dsimp only))))
    refine r_sumS rfl hD6 hys6 ?_
    rw [worth_sum n 0, Nat.pow_zero, Nat.mul_one]
    intro h7 tk7 t7 st7
    have F7 := frStays F6 st7
    have N7 := newsTail (newsTail (newsTail (newsStays N6 st7)))
    clear F6 N6 hD6 st7 hys6 F5 N5 ho5 hT3 st5
    have hmn : (0 - (n : Int)).natAbs = n ∧ (digs n).length ≤ 1000 := ⟨by omega, hl1⟩
    w_strict (repeat' (first | (k_unfold; (try dsimp only)) | walk1 | (dsimp only; walk1) | (leave1; (try dsimp only))))
    show wpAny _ _ _ _ _ _
    refine' compE (cl := []) ?a ?b ?c ?d ?e ?f ?_
    case a => with_unfolding_all rfl
    case b => decide
    case c => exact rfl
    case d => decide
    case e => exact rfl
    case f => intro _; exact rfl
    w_strict (repeat' (first | (k_unfold; (try dsimp only)) | walk1 | (dsimp only; walk1) | (leave1; (try dsimp only))))
    rename Fr _ _ _ _ => F8
    rename News _ _ _ _ => N8
    have hD8 := isl (N8 _ (.head _)).1
    refine compIt_src (srcInts rfl hD8 hys2) F8 N8 (fits6 (by simp; omega)) (fun a _ b _ v => IsI.inj) (fun _ => true) (fun a y => IsT (46 :: host2 a.natAbs) y) ⟨fun _ _ _ _ _ _ _ _ _ _ _ _ _ => tests_nil rfl, ?_⟩ ?_
    · rintro C a v s₃ m₃ E' ha ⟨ta, rfl⟩ _ hm' F₁ N₁ F₃ N₃
      obtain ⟨b, hb, rfl⟩ := List.mem_map.mp ha
      have hlq : (digs (n / 16 ^ b.toNat)).length ≤ 1000 := Nat.le_trans (digs_len (Nat.lt_of_le_of_lt (Nat.div_le_self _ _) (lt_digs2 n))) hl1
      have hq1 : (((n / 16 ^ b.toNat : Nat) : Int)).natAbs = n / 16 ^ b.toNat ∧ (digs (n / 16 ^ b.toNat)).length ≤ 1000 := ⟨Int.natAbs_natCast _, hlq⟩
      have hq2 : [46].length + (host2 (n / 16 ^ b.toNat)).length ≤ 1000000 := by rw [host2_len]; simp; omega
      w_strict (repeat' (first | (k_unfold; (try dsimp only)) | walk1 | (dsimp only; walk1) | (leave1; (try dsimp only))))
      · exact ⟨_, rfl⟩
      · exact keeps_of (by assumption)
    intro D9 c9 h9 tk9 ys9 F9 N9 off9 hP9
    rw [List.filter_eq_self.mpr (fun _ _ => rfl)] at hP9
    have hys9 := TxtsAre.ofPaired hP9
    rw [lad2_map] at hys9
    have hasc : Asc (lad2 n (digs n).length) := lad2_asc _
    have hA := (N9 _ (.tail _ (.tail _ (.head _)))).1
    have hB := (N9 _ (.head _)).1
    clear hP9 hD8 F8 N8
    w_strict (repeat' (first | (k_unfold; (try dsimp only)) | walk1 | (dsimp only; walk1) | (leave1; (try dsimp only))))
    refine r_eqTxts hA hL hB hys9 hasc hasc (by have := cLine_is; show un + 3 + 64 < cLine; omega) ?_
    rw [decide_eq_true rfl]
    w_strict (repeat' (first | (k_unfold; (try dsimp only)) | walk1 | (dsimp only; walk1) | (leave1; (try dsimp only))))
    exact h _ _ F9.keep
end
end Mine

end PartH5
section PartMRef
open PySem PySem.W PySem.Calls PyProof.Rows
set_option maxRecDepth 100000
namespace Mine
def AllNe (d : Nat) : List (Addr × Obj) → Prop
  | [] => True
  | p :: r => @Ne Nat p.1 d ∧ AllNe d r
theorem allNe_of {d : Addr} : ∀ {l : List (Addr × Obj)}, (∀ p ∈ l, p.1 ≠ d) → AllNe d l
  | [], _ => trivial
  | p :: _, h => ⟨h p (.head _), allNe_of fun q hq => h q (.tail _ hq)⟩
/-- a new object as the value -/
def NewObj (o : Obj) (s₃ : Shared) (z : Value) (s₄ : Shared) : Prop := ∃ D h' tk, z = .ref D ∧ s₄ = { s₃ with heap := h', toks := tk } ∧ s₃.heap.StaysIn h' ∧ s₃.heap.get? D = none ∧ h'.get? D = some o
def objsOf (O : Nat → Obj) : Nat → List Addr → List (Addr × Obj)
  | _, [] => []
  | i, d :: r => (d, O i) :: objsOf O (i + 1) r
theorem objsOf_mem {O : Nat → Obj} : ∀ {ds : List Addr} {k : Nat} {q : Addr × Obj}, q ∈ objsOf O k ds → ∃ j, ds[j]? = some q.1 ∧ q.2 = O (k + j)
  | [], _, _, h => by cases h
  | d :: r, k, q, h => by
    rcases List.mem_cons.mp h with rfl | h
    · exact ⟨0, rfl, rfl⟩
    · obtain ⟨j, e1, e2⟩ := objsOf_mem h
      exact ⟨j + 1, by simpa using e1, by rw [e2]; congr 1; omega⟩
theorem objsOf_at {O : Nat → Obj} : ∀ {ds : List Addr} {k j : Nat} {d : Addr}, ds[j]? = some d → (d, O (k + j)) ∈ objsOf O k ds
  | [], _, _, _, h => by simp at h
  | a :: r, k, 0, d, h => by
    cases h
    exact .head _
  | a :: r, k, j + 1, d, h => by
    have := objsOf_at (O := O) (ds := r) (k := k + 1) (j := j) (d := d) (by simpa using h)
    rw [show k + 1 + j = k + (j + 1) by omega] at this
    exact .tail _ this
section
variable {prog : Program} {w : World} {A : Around} {E : Value → Shared → Prop} {env : Env} {s : Shared} {h₀ : Heap} {L : Addr} {m : Str → Option Value} {news : List (Addr × Obj)} {scope : Scope} {cl : List (Str × Addr)} {x : Str} {elt iter : Expr} {px pos : Pos} {l : Addr} {vs : List Value}
theorem r_addO {Q : Value → Shared → Prop} {a b : Addr} {us ws : List Value} {c d : Nat} (F : Fr h₀ L s.heap m) (N : News h₀ L s.heap news) (hl : (a, ({ cls := .type "list", data := .seq us.toArray c } : Obj)) ∈ news) (hb : (b, ({ cls := .type "list", data := .seq ws.toArray d } : Obj)) ∈ news) (hz : us.length + ws.length ≤ 1000000)
    (h : ∀ D h', Fr h₀ L h' m → News h₀ L h' ((D, { cls := .type "list", data := .seq (us ++ ws).toArray 0 }) :: news) → (∀ p ∈ news, p.1 < D) → Q (.ref D) { s with heap := h' }) :
    wpAny (model prog w) A (binaryOp .Add (.ref a) (.ref b)) Q E s :=
  add_arrays F N (isl (N _ hl).1) (isl (N _ hb).1) (fun h' F' N' => h _ h' F' N' fun p hp => Heap.lt_size (N p hp).1) (by simp; exact fits6 (by omega))
theorem r_addTO {Q : Value → Shared → Prop} {a b : Addr} {us ws : List Value} {ls ks : List (List Nat)} {c d : Nat} (F : Fr h₀ L s.heap m) (N : News h₀ L s.heap news) (hl : (a, ({ cls := .type "list", data := .seq us.toArray c } : Obj)) ∈ news) (hb : (b, ({ cls := .type "list", data := .seq ws.toArray d } : Obj)) ∈ news) (hi : TxtsAre us ls) (hj : TxtsAre ws ks) (hz : ls.length + ks.length ≤ 1000000)
    (h : ∀ D h', Fr h₀ L h' m → News h₀ L h' ((D, { cls := .type "list", data := .seq (us ++ ws).toArray 0 }) :: news) → (∀ p ∈ news, p.1 < D) → TxtsAre (us ++ ws) (ls ++ ks) → Q (.ref D) { s with heap := h' }) :
    wpAny (model prog w) A (binaryOp .Add (.ref a) (.ref b)) Q E s :=
  r_addO F N hl hb (by rw [hi.len, hj.len]; exact hz) fun D h' F' N' lt => h D h' F' N' lt (hi.app hj)
theorem compN {Q : Value → Shared → Prop}
    (hclos : closureFor scope env = pure cl) (hkind : scope.kind = .function) (hnames : ∀ y ∈ scope.names, y.2 = .local → scope.names.lookup y.1 = some .local) (hs : ∀ x, foldedSetIterable iter env x = pure x)
    (h : wpAny (model prog w) A (eval iter env) (CompPr prog w A E env scope cl (.ListComp elt [⟨.Name x px, iter, [], 0⟩] scope pos) none Q) E s) :
    wpAny (model prog w) A (eval (.ListComp elt [⟨.Name x px, iter, [], 0⟩] scope pos) env) Q E s := by
  rw [eval_ListComp]
  exact wpAny_comprehension_free (use := none) rfl hs hclos hkind hnames h
theorem refs_comp {Q : Value → Shared → Prop} (O : Nat → Obj) (hh : A.handled = none) (F : Fr h₀ L s.heap m) (N : News h₀ L s.heap news) (hl : s.heap.IsList l vs.toArray) (hsz : vs.length ≤ sizeLine)
    (hcell : ∀ y ∈ scope.names, y.2 ≠ .cell) (hkind : scope.kind = .function) (hx : scope.names.lookup x = some .local)
    (T : ∀ C i v s₃ m₃ E', vs[i]? = some v → m₃ x = some v → Fr h₀ L s₃.heap m → News h₀ L s₃.heap news → Fr h₀ C s₃.heap m₃ → News h₀ C s₃.heap news → wpAny (model prog w) A (eval elt (compEnvC scope cl C env)) (NewObj (O i) s₃) E' s₃)
    (hfin : ∀ D (ds : List Addr) c h' tk, ds.length = vs.length → Fr h₀ L h' m → News h₀ L h' ((D, { cls := .type "list", data := .seq (ds.map Value.ref).toArray c }) :: (news ++ objsOf O 0 ds)) → (∀ q ∈ news, q.1 ≠ D ∧ q.1 ∉ ds) → D ∉ ds → Q (.ref D) { s with heap := h', toks := tk }) :
    CompPr prog w A E env scope cl (.ListComp elt [⟨.Name x px, iter, [], 0⟩] scope pos) none Q (.ref l) s := by
  have hlt : @LT.lt Nat _ l s.heap.objs.size := by obtain ⟨_, e, _⟩ := hl; exact Heap.lt_size e
  show wpAny _ _ (pyIter (.ref l)) _ _ _
  refine wpAny_pyIter_list hl ?_
  generalize hEe : s.heap.push _ = hE
  have hszE : hE.objs.size = s.heap.objs.size + 1 := by rw [← hEe, Heap.size_push]
  have hit : hE.IsListIter s.heap.objs.size l 0 := ⟨_, hEe ▸ Heap.get?_push_size _ rfl, rfl, rfl⟩
  have hkE : ∀ b o, s.heap.get? b = some o → hE.get? b = some o := fun b o e => hEe ▸ Heap.get?_push_of_some _ e
  generalize hIe : s.heap.objs.size = I at hlt hszE hit ⊢
  have hlI : l ≠ I := neA (by omega)
  have W := Walks.list (prog := prog) (w := w) (A := A) hh I l hlI vs.toArray
  have hnone : ∀ b : Nat, I ≤ b → s.heap.get? b = none := fun b hb => by
    cases e : s.heap.get? b with
    | none => rfl
    | some o => exact absurd (ltA e) (Nat.not_lt.mpr (hIe ▸ hb))
  refine wpAny_newObj_type (wpAny_newFunctionEnv hcell (by intro y hy; simp at hy) (fun h₁ hns₁ hsb₁ => ?_) hkind)
  dsimp only at hns₁ hsb₁ ⊢
  generalize hH2 : hE.push { cls := .type "list", dict := none, data := .seq ([] : List Value).toArray } = H2 at hns₁ hsb₁ ⊢
  generalize hDe : hE.objs.size = D at *
  have hCe : H2.objs.size = D + 1 := by rw [← hH2, Heap.size_push, hDe]
  generalize hCg : H2.objs.size = C at *
  have hDC : D ≠ C := neA (by omega)
  have hID : I ≠ D := neA (by omega)
  have hIC : I ≠ C := neA (by omega)
  have oldE : ∀ b o, hE.get? b = some o → h₁.get? b = some o := fun b o e => by
    have := ltA e
    exact hsb₁.extBut b o (neA (by omega)) (Heap.get?_push_of_some _ (hH2 ▸ Heap.get?_push_of_some _ e))
  have hacc : h₁.PlainList D #[] := ⟨_, hsb₁.extBut _ _ hDC (Heap.get?_push_of_some _ (hH2 ▸ hDe ▸ Heap.get?_push_size _ rfl))⟩
  have hst₁ := W.frame 0 hE h₁ ⟨hit, hl.at fun o e => hkE l o e⟩ fun b _ o e => oldE b o e
  have old : ∀ b o, s.heap.get? b = some o → h₁.get? b = some o := fun b o e => oldE b o (hkE b o e)
  have lo : ∀ b o, s.heap.get? b = some o → b ≠ D ∧ b ≠ C ∧ b ≠ I := fun b o e => by
    have := ltA e
    exact ⟨neA (by omega), neA (by omega), neA (by omega)⟩
  obtain ⟨ol, hol, _⟩ := id hl
  have hlo := lo l ol hol
  have hfp : ∀ b ∈ [I, l], b ≠ D ∧ b ≠ C := fun b hb => by
    rcases List.mem_cons.mp hb with rfl | hb
    · exact ⟨hID, hIC⟩
    · rw [List.mem_singleton.mp hb]; exact ⟨hlo.1, hlo.2.1⟩
  obtain ⟨oL, _, _, hLo, _⟩ := id F.ns
  have loop : ∀ s₃ : Shared, s₃ = { s with heap := h₁, toks := s.toks + ([] : List (Str × Value)).length } →
      codeAny (model prog w) A (.compLoop (.ListComp elt [⟨.Name x px, iter, [], 0⟩] scope pos) 0 (.ref I) (.ref D) (compEnvC scope cl C env)) (compPost (model prog w) A E none Q (.ref D) C) s₃ := by
    rintro s₃ rfl
    refine codeAny_compLoop_tests
      (fun k s' => ∃ h' tk m', ∃ ds : List Addr, s' = { s with heap := h', toks := tk } ∧ ds.length ≤ vs.length ∧ k = vs.length + 1 - ds.length ∧ (h'.IsListIter I l ds.length ∧ h'.IsList l vs.toArray) ∧ h'.PlainList D (ds.map Value.ref).toArray ∧ h'.Ns C m' ∧
        (∀ j d, ds[j]? = some d → h'.get? d = some (O j) ∧ s.heap.get? d = none ∧ d ≠ I ∧ d ≠ D ∧ d ≠ C) ∧ s.heap.StaysIn h') ?_ (vs.length + 1)
      ⟨h₁, _, _, [], rfl, Nat.zero_le _, rfl, hst₁, hacc, hns₁, fun j d hz => by simp at hz, old⟩
    rintro k s' ⟨h', tk, m', ds, rfl, hi, rfl, hst, hD', hn', hG, hk'⟩
    by_cases hlt : ds.length < vs.length
    · refine W.item _ _ _ _ (by simpa using hlt) hst fun v h₂ tk₂ hP hst₂ hk₂ => ?_
      have hv : vs[ds.length]? = some v := by simpa using hP
      have hw : ∀ b, b ≠ I → b ∉ [I] := fun b hb q => hb (List.mem_singleton.mp q)
      refine wpAny_assign_Name (wpAny_storeName_local (lookup_relabel_local hx) (hn'.at' fun o e => hk₂ _ o (hw _ (Ne.symm hIC)) e) (fun h₄ hn₄ hs₄ => ?_) (by simp [compEnvC, relabel, hkind]))
      have up : ∀ b o, b ≠ I → b ≠ C → h'.get? b = some o → h₄.get? b = some o := fun b o h1 h2 e => hs₄.extBut b o h2 (hk₂ b o (hw b h1) e)
      have st4 : s.heap.StaysIn h₄ := fun b o e => up b o (lo b o e).2.2 (lo b o e).2.1 (hk' b o e)
      have hst4 := W.frame _ _ h₄ hst₂ fun b hb o e => hs₄.extBut b o (hfp b hb).2 e
      have hD4 : h₄.PlainList D (ds.map Value.ref).toArray := hD'.at fun o e => up _ o (Ne.symm hID) hDC e
      have F4 : Fr h₀ L h₄ m := frStays F st4
      have N4 : News h₀ L h₄ news := newsStays N st4
      have hLs := ltA hLo
      have FC : Fr h₀ C h₄ (fun z => if z = x then some v else m' z) := ⟨hn₄, F4.keep, Nat.le_trans F.above (Nat.le_of_lt (Nat.lt_of_lt_of_le hLs (by omega)))⟩
      have NC : News h₀ C h₄ news := fun q hq => ⟨(N4 q hq).1, (lo _ _ (N q hq).1).2.1, (N q hq).2.2⟩
      refine wpAny_mono (tests_nil (b := true) (E' := notedBy (model prog w) A (compEnvC scope cl C env) fun e s' => compPost (model prog w) A E none Q (.ref D) C (.error e) s') rfl) (fun ok s₅ h5 => ?_) fun _ _ e => e
      obtain ⟨rfl, h₅, tk₅, rfl, hk₅⟩ := h5
      rw [if_pos rfl]
      refine wpAny_mono (T C _ v _ _ _ hv (by simp) (frStays F4 hk₅) (newsStays N4 hk₅) (frStays FC hk₅) (newsStays NC hk₅)) (fun z s₆ h₆ => ?_) fun _ _ e => e
      obtain ⟨d, h₆, tk₆, rfl, rfl, st₆, hd0, hd1⟩ := h₆
      have dne : ∀ b o, h₅.get? b = some o → b ≠ d := fun b o e q => by rw [q, hd0] at e; cases e
      obtain ⟨cD, hDp⟩ := hD4
      obtain ⟨oC, _, _, hCo, _⟩ := id hn₄
      obtain ⟨oI, hIo, _⟩ := id hst4.1
      have hdI : d ≠ I := Ne.symm (dne I oI (hk₅ I oI hIo))
      have hdD : d ≠ D := Ne.symm (dne D _ (hk₅ D _ hDp))
      have hdC : d ≠ C := Ne.symm (dne C oC (hk₅ C oC hCo))
      refine wpAny_list_append_plain (hsz := by simp; omega) (items := (ds.map Value.ref).toArray) ⟨cD, st₆ _ _ (hk₅ _ _ hDp)⟩ fun h₇ hl₇ hs₇ => ?_
      have e7 : (ds.map Value.ref).toArray.push (.ref d) = ((ds ++ [d]).map Value.ref).toArray := by simp
      rw [e7] at hl₇
      refine ⟨vs.length + 1 - (ds.length + 1), by omega, h₇, tk₆, _, ds ++ [d], rfl, by simp; omega, by simp, ?_, hl₇, ((hn₄.keeps hk₅).keeps st₆).sameBut hs₇ (Ne.symm hDC), ?_, fun b o e => hs₇.extBut b o (lo b o e).1 (st₆ b o (hk₅ b o (st4 b o e)))⟩
      · have := W.frame _ _ h₇ hst4 fun b hb o e => hs₇.extBut b o (hfp b hb).1 (st₆ b o (hk₅ b o e))
        simpa using this
      · intro j u hu
        rcases Nat.lt_trichotomy j ds.length with q | q | q
        · rw [List.getElem?_append_left q] at hu
          obtain ⟨g1, g2, g3, g4, g5⟩ := hG j u hu
          exact ⟨hs₇.extBut _ _ g4 (st₆ _ _ (hk₅ _ _ (up _ _ g3 g5 g1))), g2, g3, g4, g5⟩
        · subst q
          rw [List.getElem?_append_right (Nat.le_refl _), Nat.sub_self] at hu
          cases hu
          refine ⟨hs₇.extBut _ _ hdD hd1, ?_, hdI, hdD, hdC⟩
          cases e : s.heap.get? d with
          | none => rfl
          | some o => exact absurd rfl (dne d o (hk₅ _ _ (st4 d o e)))
        · rw [List.getElem?_eq_none (by rw [List.length_append, List.length_singleton]; omega)] at hu; cases hu
    · have hin : ds.length = vs.length := by omega
      have hst' : h'.IsListIter I l vs.toArray.size ∧ h'.IsList l vs.toArray := by simpa [hin] using hst
      refine W.done _ _ _ hst' fun h₂ tk₂ hk₂ => ?_
      have hw : ∀ b, b ≠ I → b ∉ [I] := fun b hb q => hb (List.mem_singleton.mp q)
      obtain ⟨cD, hDp⟩ := hD'
      refine ⟨m', hn'.at' fun o e => hk₂ _ o (hw _ (Ne.symm hIC)) e, fun h₃ hs₃ => ?_⟩
      have up : ∀ b o, b ≠ I → b ≠ C → h'.get? b = some o → h₃.get? b = some o := fun b o h1 h2 e => hs₃.extBut b o h2 (hk₂ b o (hw b h1) e)
      have st3 : s.heap.StaysIn h₃ := fun b o e => up b o (lo b o e).2.2 (lo b o e).2.1 (hk' b o e)
      have h0n : ∀ b, s.heap.get? b = none → h₀.get? b = none := fun b hb => by
        cases e : h₀.get? b with
        | none => rfl
        | some o => rw [F.keep b o e] at hb; cases hb
      have hLn : ∀ b, s.heap.get? b = none → b ≠ L := fun b hb q => by rw [q, hLo] at hb; cases hb
      have hDn := hnone D (by omega)
      refine hfin D ds cD h₃ tk₂ hin (frStays F st3) (fun q hq => ?_) (fun q hq => ⟨(lo _ _ (N q hq).1).1, fun hd => ?_⟩) (fun hd => ?_)
      · rcases List.mem_cons.mp hq with rfl | hq
        · exact ⟨up _ _ (Ne.symm hID) hDC hDp, hLn D hDn, h0n D hDn⟩
        · rcases List.mem_append.mp hq with hq | hq
          · exact newsStays N st3 q hq
          · obtain ⟨j, e1, e2⟩ := objsOf_mem hq
            obtain ⟨g1, g2, g3, g4, g5⟩ := hG j _ e1
            refine ⟨?_, hLn _ g2, h0n _ g2⟩
            rw [e2, Nat.zero_add]
            exact up _ _ g3 g5 g1
      · obtain ⟨j, hj, e⟩ := List.getElem_of_mem hd
        have := (hG j q.1 (by rw [List.getElem?_eq_getElem hj, e])).2.1
        rw [(N q hq).1] at this; cases this
      · obtain ⟨j, hj, e⟩ := List.getElem_of_mem hd
        exact (hG j D (by rw [List.getElem?_eq_getElem hj, e])).2.2.2.1 rfl
  exact codeAny_compStart_list (loop _ rfl) (W.self 0 _ _ _ hst₁ (loop _ rfl))
end
end Mine

end PartMRef
section PartMForC
open PySem PySem.W PySem.Calls PyProof.Rows
set_option maxRecDepth 100000
namespace Mine
section
variable {prog : Program} {w : World} {A : Around} {E : Value → Shared → Prop} {env : Env} {s : Shared} {Q : Flow → Shared → Prop}
def ForItC (prog : Program) (w : World) (A : Around) (h₀ : Heap) (E : Value → Shared → Prop) (env : Env) (target : Expr) (body : List Stmt) (Q : Flow → Shared → Prop) (xv : Value) (s₁ : Shared) : Prop :=
  wpAny (model prog w) A (pyIter xv) (fun it s₂ => TurnsAt prog w A h₀ env target body Q E it s₂) E s₁
theorem forC {iter target : Expr} {pos : Pos} {body : List Stmt} {h₀ : Heap} {m : Str → Option Value} (F : Fr h₀ env.locals s.heap m) (hs : ∀ x, foldedSetIterable iter env x = pure x) (hE : PassesOwn (model prog w) A env E)
    (h : wpAny (model prog w) A (eval iter env) (ForItC prog w A h₀ E env target body Q) E s) : wpAny (model prog w) A (exec (.For target iter body [] pos) env) Q E s := For_turns F h hs hE
theorem forItC_src {α : Type} {K : α → Value → Prop} {as : List α} {xv : Value} {s₁ : Shared} {h₀ : Heap} {m : Str → Option Value} {news : List (Addr × Obj)} {x : Str} {px : Pos} {body : List Stmt}
    (hsrc : Src prog w A K as xv s₁) (hxL : ∀ b, xv = .ref b → b ≠ env.locals) (F : Fr h₀ env.locals s₁.heap m) (N : News h₀ env.locals s₁.heap news)
    (J : Nat → (Str → Option Value) → List (Addr × Obj) → Prop) (hJ : J 0 m news)
    (turn : ∀ (I : Addr) (i : Nat) a v m₁ news₁ h tk own, as[i]? = some a → K a v → J i m₁ news₁ → (∀ p ∈ news₁, p.1 ∉ [I]) → (∀ p ∈ own, p.1 = I ∨ xv = .ref p.1) → Fr h₀ env.locals h m₁ → News h₀ env.locals h (own ++ news₁) →
      wpAny (model prog w) A (assign (.Name x px) env v) (fun _ s₃ => wpAny (model prog w) A (execs body env)
        (LoopStepV h₀ env.locals [I] own (J (i + 1)) { s₁ with heap := h, toks := tk } (fun v s' => Q (.ret v) s') fun s' => Q .next s') E s₃) E { s₁ with heap := h, toks := tk })
    (done : ∀ m₁ news₁ h tk, J as.length m₁ news₁ → Fr h₀ env.locals h m₁ → News h₀ env.locals h news₁ → Q .next { s₁ with heap := h, toks := tk }) :
    ForItC prog w A h₀ E env (.Name x px) body Q xv s₁ := by
  refine hsrc _ _ fun I fp h₂ tk₂ St W hst hfp hsub hI st => ?_
  obtain ⟨oL, _, _, hLo, _⟩ := id F.ns
  have hIL : I ≠ env.locals := by rintro rfl; rw [hI] at hLo; cases hLo
  refine ⟨I, fp, [I], as.length, _, _, St, m, news, J, rfl, KTurns.ofWalks W fun i v s Q E _ hQ => wpAny_pure hQ, ?_, ?_, ?_, hst, frStays F st, newsStays N st, hJ, ?_, ?_⟩
  · intro hm
    rcases hsub _ hm with e | e
    · exact hIL e.symm
    · exact hxL _ e rfl
  · intro b hb
    rw [List.mem_singleton.mp hb]
    cases e : h₀.get? I with
    | none => rfl
    | some o => rw [F.keep I o e] at hI; cases hI
  · intro p hp hm
    have := (N p hp).1
    rw [List.mem_singleton.mp hm, hI] at this; cases this
  · rintro i v m₁ news₁ h₁ tk₁ own hi ⟨a, ha, hk⟩ hj hw ho _ _ _ F₁ N₁
    exact turn I i a v m₁ news₁ h₁ tk₁ own ha hk hj hw (fun p hp => hsub _ (ho p hp)) F₁ N₁
  · intro h' tk m' news' F' N' _ hj
    exact done m' news' h' tk hj F' N'
end
end Mine

end PartMForC
section PartH7
open PySem PySem.W PySem.Calls PyProof.Rows
set_option maxRecDepth 100000
set_option maxHeartbeats 8000000
set_option pp.deepTerms false
set_option pp.deepTerms.threshold 8
namespace Mine
local macro_rules | `(tactic| walk_at "zz none") => `(tactic| fail "none")
local macro_rules | `(tactic| walk_at "zz none") => `(tactic| fail "none")
local macro_rules | `(tactic| walk_at "zz none") => `(tactic| fail "none")
local macro_rules | `(tactic| walk_at "zz none") => `(tactic| fail "none")
local macro_rules | `(tactic| walk_at "zz none") => `(tactic| fail "none")
local macro_rules | `(tactic| walk_at "zz none") => `(tactic| fail "none")
local macro_rules | `(tactic| walk_at "zz none") => `(tactic| fail "none")
local macro_rules | `(tactic| walk_at "zz none") => `(tactic| fail "none")
local macro_rules | `(tactic| walk_at "zz none") => `(tactic| fail "none")
local macro_rules | `(tactic| walk_at "zz none") => `(tactic| fail "none")
local macro_rules | `(tactic| walk_at "zz none") => `(tactic| fail "none")
local macro_rules | `(tactic| walk_at "zz none") => `(tactic| fail "none")
local macro_rules | `(tactic| walk_at "zz none") => `(tactic| fail "none")
local macro_rules | `(tactic| walk_at "zz none") => `(tactic| fail "none")
local macro_rules | `(tactic| walk_at "zz none") => `(tactic| fail "none")
local macro_rules | `(tactic| walk_at "zz none") => `(tactic| fail "none")
local macro_rules | `(tactic| walk_at "zz none") => `(tactic| fail "none")
local macro_rules | `(tactic| walk_at "zz none") => `(tactic| fail "none")
local macro_rules | `(tactic| walk_at "zz none") => `(tactic| fail "none")
local macro_rules | `(tactic| walk_at "zz none") => `(tactic| fail "none")
local macro_rules | `(tactic| walk_at "zz none") => `(tactic| fail "none")
local macro_rules | `(tactic| walk_at "zz none") => `(tactic| fail "none")
local macro_rules | `(tactic| walk_at "zz none") => `(tactic| fail "none")
local macro_rules | `(tactic| walk_at "zz none") => `(tactic| fail "none")
local macro_rules | `(tactic| walk_at "zz none") => `(tactic| fail "none")
local macro_rules | `(tactic| walk_at "zz none") => `(tactic| fail "none")
local macro_rules | `(tactic| walk_at "zz none") => `(tactic| fail "none")
local macro_rules | `(tactic| walk_at "zz none") => `(tactic| fail "none")
local macro_rules | `(tactic| walk_at "zz none") => `(tactic| fail "none")
local macro_rules | `(tactic| walk_at "zz none") => `(tactic| fail "none")
local macro_rules | `(tactic| walk_at "zz none") => `(tactic| fail "none")
local macro_rules | `(tactic| walk_at "zz none") => `(tactic| fail "none")
local macro_rules | `(tactic| walk_at "zz none") => `(tactic| fail "none")
local macro_rules | `(tactic| walk_at "zz none") => `(tactic| fail "none")
local macro_rules | `(tactic| walk_at "zz none") => `(tactic| fail "none")
local macro_rules | `(tactic| walk_at "zz none") => `(tactic| fail "none")
local macro_rules | `(tactic| walk_at "zz none") => `(tactic| fail "none")
local macro_rules | `(tactic| walk_at "zz none") => `(tactic| fail "none")
local macro_rules | `(tactic| walk_at "zz none") => `(tactic| fail "none")
local macro_rules | `(tactic| walk_at "zz none") => `(tactic| fail "none")
local macro_rules | `(tactic| walk_at "zz none") => `(tactic| fail "none")
local macro_rules | `(tactic| walk_at "zz none") => `(tactic| fail "none")
local macro_rules | `(tactic| walk_at "zz none") => `(tactic| fail "none")
local macro_rules | `(tactic| walk_at "zz none") => `(tactic| fail "none")
local macro_rules | `(tactic| walk_at "zz none") => `(tactic| fail "none")
local macro_rules | `(tactic| walk_at "zz none") => `(tactic| fail "none")
local macro_rules | `(tactic| walk_at "zz none") => `(tactic| fail "none")
local macro_rules | `(tactic| walk_at "zz none") => `(tactic| fail "none")
local macro_rules | `(tactic| walk_at "zz none") => `(tactic| fail "none")
local macro_rules | `(tactic| walk_at "zz none") => `(tactic| fail "none")
local macro_rules | `(tactic| walk_at "zz none") => `(tactic| fail "none")
local macro_rules | `(tactic| walk_at "zz none") => `(tactic| fail "none")
local macro_rules | `(tactic| walk_at "zz none") => `(tactic| fail "none")
local macro_rules | `(tactic| walk_at "zz none") => `(tactic| fail "none")
local macro_rules | `(tactic| walk_at "zz none") => `(tactic| fail "none")
local macro_rules | `(tactic| walk_at "zz none") => `(tactic| fail "none")
local macro_rules | `(tactic| walk_at "zz none") => `(tactic| fail "none")
local macro_rules | `(tactic| walk_at "zz none") => `(tactic| fail "none")
local macro_rules | `(tactic| walk_at "zz none") => `(tactic| fail "none")
local macro_rules | `(tactic| walk_at "zz none") => `(tactic| fail "none")
local macro_rules | `(tactic| walk_at "zz none") => `(tactic| fail "none")
local macro_rules | `(tactic| walk_at "zz none") => `(tactic| fail "none")
local macro_rules | `(tactic| walk_at "zz none") => `(tactic| fail "none")
local macro_rules | `(tactic| walk_at "zz none") => `(tactic| fail "none")
local macro_rules | `(tactic| walk_at "zz none") => `(tactic| fail "none")
local macro_rules | `(tactic| walk_at "zz none") => `(tactic| fail "none")
local macro_rules | `(tactic| walk_at "zz none") => `(tactic| fail "none")
local macro_rules | `(tactic| walk_at "zz none") => `(tactic| fail "none")
local macro_rules | `(tactic| walk_at "zz none") => `(tactic| fail "none")
local macro_rules | `(tactic| walk_at "zz none") => `(tactic| fail "none")
local macro_rules | `(tactic| walk_at "zz none") => `(tactic| fail "none")
local macro_rules | `(tactic| walk_at "zz none") => `(tactic| fail "none")
local macro_rules | `(tactic| walk_at "zz none") => `(tactic| fail "none")
local macro_rules | `(tactic| walk_at "zz none") => `(tactic| fail "none")
local macro_rules | `(tactic| walk_at "zz none") => `(tactic| fail "none")
local macro_rules | `(tactic| walk_at "zz none") => `(tactic| fail "none")
theorem fillh7 : PySem.Challenge.rw_rl0024_02.wellSaid = true ∧ hd.heap_39 = hd.heap_39 → True := by
  k_fill
  exact fun _ => trivial
theorem lkSubst {K : Frag} {f : Addr} {oc oc' : Value} {od od' : Option Addr} {osl osl' : Array (Option Value)} {name qual name' qual' : Str} {params params' : Arguments} {body body' : List Stmt} {scope scope' : Scope} {dV kV doc pm cdv ct dV' kV' doc' pm' cdv' ct' : Value} {an an' : Option Addr} {G : Prop}
   (h1 : K.lookup f = some ⟨oc, od, .func (fnOf name qual params body scope dV kV doc pm an cdv ct), osl⟩) (h2 : K.lookup f = some ⟨oc', od', .func (fnOf name' qual' params' body' scope' dV' kV' doc' pm' an' cdv' ct'), osl'⟩)
   (h : name = name' → qual = qual' → body = body' → scope = scope' → G) : G := by
  have e := h1.symm.trans h2
  unfold fnOf at e
  cases e
  exact h rfl rfl rfl rfl
section
variable {prog : Program} {w : World} {dp un : Nat} {gd : Option (List Code)} {s : Shared} {base : Heap} {fr : List Env} {p : Program} {loose : List Str} {mean : ExcName → Option Value} {mg mb : Str → Option Value} {Q E : Value → Shared → Prop} {A : Around} {t u : Tok}
/-- what the law asks of its readers -/
theorem named_to {n : Nat} {t u : Tok} (M : Amb (hd.heap_39 w.params) p loose mean mg mb (At dp un gd fr) base fr s.heap) (hdp : dp + 4 < recursionLimit) (hun : un + 200 < cLine) (hn : n ≠ 0 ∧ (digs n).length ≤ 8)
   (h : ∀ h' tk', s.heap.StaysIn h' → Q (.bool true) { s with heap := h', toks := tk' }) : wpAny (model prog w) (At dp un gd fr) (call (.ref 88) [.str (S (host2 n)) t, .int n u]) Q E s := named_at M hdp hun hn.1 hn.2 h
theorem reach2_pos_at {n : Nat} (M : Amb (hd.heap_39 w.params) p loose mean mg mb (At dp un gd fr) base fr s.heap) (hdp : dp + 1 < recursionLimit) (hg : n ≠ 0 ∧ (digs n).length ≤ 8)
   (h : ∀ h' t' tk', s.heap.StaysIn h' → Q (.str (S (46 :: host2 (n / 16))) t') { s with heap := h', toks := tk' }) : wpAny (model prog w) (At dp un gd fr) (call (.ref 64) [.str (S (host2 n)) t]) Q E s :=
  reach2_at M hdp (by omega) (by rw [reach2_pos hg.1]; exact h)
end
local macro_rules | `(tactic| walk_at "eval Name") => `(tactic| (k_here; k_dflt (first
  | (refine' nmL ?k1 ?k2 ?_; (case k1 => k_asm); (case k2 => assumption); k_whole)
  | (refine' nmK ?k1 ?k2 ?k3 ?k4 ?_; (case k1 => k_asm); (case k2 => k_asm); (case k3 => k_asm); (case k4 => k_is); k_whole)
  | (refine' nmB ?k1 ?k2 ?k3 ?k4 ?k5 ?k6 ?_; (case k1 => k_asm); (case k2 => k_asm); (case k3 => k_asm); (case k4 => k_is); (case k5 => boot_by_name); (case k6 => decide); k_whole)
  | (refine' nmC ?k1 ?k2 ?k3 ?k4 ?_; (case k1 => k_asm); (case k2 => exact rfl); (case k3 => k_mem); (case k4 => assumption); k_whole)
  | (refine' ldQ ?k1 ?k2 ?_; (case k1 => k_asm); (case k2 => assumption); k_whole))))
local macro_rules | `(tactic| walk_at "exec While BoolOp cons nil") => `(tactic| (k_here; refine Stop.mk ?_))
local macro_rules | `(tactic| walk_at "eval ListComp") => `(tactic| (k_here; refine Stop.mk ?_))
local macro_rules | `(tactic| walk_at "exec Assign cons ListComp") => `(tactic| (k_here; (with_reducible show wpAny _ _ (exec (Stmt.Assign [Expr.Name (Str.ofString "led") _] _ _) _) _ _ _); refine Stop.mk ?_))
local macro_rules | `(tactic| walk_at "compareOp NotEq ref ref") => `(tactic| (k_here; refine Stop.mk ?_))
local macro_rules | `(tactic| walk_at "compareOp Eq ref ref") => `(tactic| (k_here; refine Stop.mk ?_))
local macro_rules | `(tactic| walk_at "call type:enumerate") => `(tactic| (k_here; refine Stop.mk ?_))
local macro_rules | `(tactic| walk_at "call builtin:sum") => `(tactic| (k_here; refine Stop.mk ?_))
local macro_rules | `(tactic| walk_at "call builtin:str.split") => `(tactic| (k_here; refine Stop.mk ?_))
local macro_rules | `(tactic| walk_at "call builtin:list.append") => `(tactic| (k_here; refine Stop.mk ?_))
local macro_rules | `(tactic| walk_at "eval Constant str") => `(tactic| ((first | with_reducible refine r_const sDot ?_); intro _ _; (try dsimp only)))
local macro_rules | `(tactic| walk_at "call ref") => `(tactic| (k_here; (with_reducible show wpAny _ _ (call (Value.ref 64) [Value.str (S (host2 _)) _]) _ _ _); k_dflt (refine' reach2_at (ambOf ?B ?F ?X ?T ?hA ?hf ?hk) ?d ?x ?_; (case B => k_asm); (case hA => exact rfl); (case hf => exact rfl); (case hk => exact rfl); (case F => k_asm); (case X => k_asm); (case T => k_asm); (case d => first | decide | ((try dsimp only); omega) | ktr_room); (case x => assumption); intro h' t' tk' st'; (have F' := frStays (by k_asm) st'); (have N' := newsStays (by k_asm) st'); (try dsimp only); (try k_sweep))))
local macro_rules | `(tactic| walk_at "call ref") => `(tactic| (k_here; (with_reducible show wpAny _ _ (call (Value.ref 57) _) _ _ _); k_dflt (refine' udmE (ambOf ?B ?F ?X ?T ?hA ?hf ?hk) ?d ?x ?y ?e ?_; (case B => k_asm); (case hA => exact rfl); (case hf => exact rfl); (case hk => exact rfl); (case F => k_asm); (case X => k_asm); (case T => k_asm); (case d => first | decide | ((try dsimp only); omega) | ktr_room); (case x => assumption); (case y => assumption); (case e => assumption); intro h' tk' st'; (have F' := frStays (by k_asm) st'); (have N' := newsStays (by k_asm) st'); (try dsimp only); (try k_sweep))))
local macro_rules | `(tactic| walk_at "call ref") => `(tactic| (k_here; (with_reducible show wpAny _ _ (call (Value.ref 83) _) _ _ _); k_dflt (refine' letters_at (ambOf ?B ?F ?X ?T ?hA ?hf ?hk) ?d ?x ?_; (case B => k_asm); (case hA => exact rfl); (case hf => exact rfl); (case hk => exact rfl); (case F => k_asm); (case X => k_asm); (case T => k_asm); (case d => first | decide | ((try dsimp only); omega) | ktr_room); (case x => assumption); intro h' t' tk' st'; (have F' := frStays (by k_asm) st'); (have N' := newsStays (by k_asm) st'); (try dsimp only); (try k_sweep))))
local macro_rules | `(tactic| walk_at "call ref") => `(tactic| (k_here; (with_reducible show wpAny _ _ (call (Value.ref 76) _) _ _ _); k_dflt (refine' host2_to (ambOf ?B ?F ?X ?T ?hA ?hf ?hk) ?d ?x ?_; (case B => k_asm); (case hA => exact rfl); (case hf => exact rfl); (case hk => exact rfl); (case F => k_asm); (case X => k_asm); (case T => k_asm); (case d => first | decide | ((try dsimp only); omega) | ktr_room); (case x => assumption); intro h' t' tk' st'; (have F' := frStays (by k_asm) st'); (have N' := newsStays (by k_asm) st'); (try dsimp only); (try k_sweep))))
local macro_rules | `(tactic| walk_at "subscriptTail") => `(tactic| (k_here; (with_reducible show wpAny _ _ (subscriptTail _ (Expr.Slice _ _ _ _) (Value.str (S (_ :: _)) _) (Value.ref _)) _ _ _); k_dflt (refine cons_tail (by k_asm) (by k_asm) (by assumption) ?_); intro h' t' tk' F' N'; (try dsimp only); (try k_sweep)))
local macro_rules | `(tactic| walk_at "subscriptTail") => `(tactic| (k_here; (with_reducible show wpAny _ _ (subscriptTail _ (Expr.Slice _ _ _ _) (Value.ref _) (Value.ref _)) _ _ _); refine Stop.mk ?_))
local macro_rules | `(tactic| walk_at "compareOp NotEq str str") => `(tactic| (k_here; k_dflt (first | refine r_neT (by assumption) ?_ | refine r_neF rfl ?_); (try dsimp only)))
local macro_rules | `(tactic| walk_at "compareOp Eq str str") => `(tactic| (k_here; k_dflt (first | refine r_eF (by assumption) ?_ | refine r_eT rfl ?_ | refine r_eq ?_); (try dsimp only)))
local macro_rules | `(tactic| walk_at "call builtin:str.lower") => `(tactic| (k_here; (refine r_lower (okT.asc (And.left (by assumption))) (And.right (by assumption)) ?_; intro _ _; (try dsimp only))))
local macro_rules | `(tactic| walk_at "compareOp Eq int int") => `(tactic| (k_here; k_dflt (refine r_eIT rfl ?_); (try dsimp only)))
local macro_rules | `(tactic| walk_at "compareOp IsNot bool bool") => `(tactic| (k_here; refine r_isntF rfl ?_))
local macro_rules | `(tactic| walk_at "call builtin:ord") => `(tactic| (k_here; k_dflt (refine r_ord ?_); intro _ _; (try dsimp only)))
local macro_rules | `(tactic| walk_at "call builtin:len") => `(tactic| (k_here; refine Stop.mk ?_))
local macro_rules | `(tactic| walk_at "call builtin:len") => `(tactic| (k_here; (with_reducible show wpAny _ _ (call (Value.builtin "len") [Value.ref _]) _ _ _); k_dflt (refine' r_llen ?N ?m ?z ?_; (case N => k_asm); (case m => k_mem); (case z => omega); intro t' tk'; (try dsimp only))))
local macro_rules | `(tactic| walk_at "call builtin:len") => `(tactic| (k_here; (with_reducible show wpAny _ _ (call (Value.builtin "len") [Value.str (S _) _]) _ _ _); k_dflt (refine r_len (by assumption) ?_); intro _ _; (try dsimp only)))
local macro_rules | `(tactic| walk_at "binaryOp Pow int int") => `(tactic| (k_here; k_dflt (refine r_pow (by omega) (by omega) (by decide) ?_); intro _ _; (try dsimp only)))
local macro_rules | `(tactic| walk_at "binaryOp Mult int int") => `(tactic| (k_here; k_dflt (refine r_mul (by omega) ?_); intro _ _; (try dsimp only)))
local macro_rules | `(tactic| walk_at "binaryOp FloorDiv int int") => `(tactic| (k_here; k_dflt (refine r_fdiv (by assumption) (by assumption) ?_); intro _ _; (try dsimp only)))
local macro_rules | `(tactic| walk_at "binaryOp Add str str") => `(tactic| (k_here; k_dflt (refine r_add (by assumption) ?_); intro _ _; (try dsimp only)))
local macro_rules | `(tactic| walk_at "binaryOp Add ref ref") => `(tactic| (k_here; refine Stop.mk ?_))
local macro_rules | `(tactic| walk_at "call type:list") => `(tactic| (k_here; refine Stop.mk ?_))
local macro_rules | `(tactic| walk_at "call builtin:min") => `(tactic| (k_here; refine Stop.mk ?_))
local macro_rules | `(tactic| walk_at "call ref") => `(tactic| (k_here; (with_reducible show wpAny _ _ (call (Value.ref 100) _) _ _ _); refine Stop.mk ?_))
local macro_rules | `(tactic| walk_at "call ref") => `(tactic| (k_here; (with_reducible show wpAny _ _ (call (Value.ref 95) _) _ _ _); refine Stop.mk ?_))
local macro_rules | `(tactic| walk_at "call ref") => `(tactic| (k_here; (with_reducible show wpAny _ _ (call (Value.ref 88) _) _ _ _); k_dflt (refine' named_to (ambOf ?B ?F ?X ?T ?hA ?hf ?hk) ?d ?u ?x ?_; (case B => k_asm); (case hA => exact rfl); (case hf => exact rfl); (case hk => exact rfl); (case F => k_asm); (case X => k_asm); (case T => k_asm); (case d => first | decide | ((try dsimp only); omega) | ktr_room); (case u => decide); (case x => assumption); intro h' tk' st'; (have F' := frStays (by k_asm) st'); (have N' := newsStays (by k_asm) st'); (try dsimp only); (try k_sweep))))
local macro_rules | `(tactic| walk_at "call ref") => `(tactic| (k_here; (with_reducible show wpAny _ _ (call (Value.ref 64) [Value.str (S (host2 _)) _]) _ _ _); k_dflt (refine' reach2_pos_at (ambOf ?B ?F ?X ?T ?hA ?hf ?hk) ?d ?x ?_; (case B => k_asm); (case hA => exact rfl); (case hf => exact rfl); (case hk => exact rfl); (case F => k_asm); (case X => k_asm); (case T => k_asm); (case d => first | decide | ((try dsimp only); omega) | ktr_room); (case x => assumption); intro h' t' tk' st'; (have F' := frStays (by k_asm) st'); (have N' := newsStays (by k_asm) st'); (try dsimp only); (try k_sweep))))

local macro_rules | `(tactic| k_all) => `(tactic| assumption)
local macro_rules | `(tactic| k_all) => `(tactic| assumption)

local macro_rules | `(tactic| walk_at "exec For Name Call cons nil") => `(tactic| (k_here; refine Stop.mk ?_))
local macro_rules | `(tactic| walk_at "subscriptTail Name Name ref int") => `(tactic| (k_here; refine Stop.mk ?_))
local macro_rules | `(tactic| walk_at "subscriptTail Subscript Name ref int") => `(tactic| (k_here; refine Stop.mk ?_))
theorem newsIn {h₀ : Heap} {L : Addr} {h : Heap} {pre OB own : List (Addr × Obj)} {q : Addr × Obj} (N : News h₀ L h (pre ++ (OB ++ own))) (hq : q ∈ OB) : h.get? q.1 = some q.2 := (N q (List.mem_append_right _ (List.mem_append_left _ hq))).1
local macro_rules | `(tactic| walk_at "call type:set") => `(tactic| (k_here; refine Stop.mk ?_))
theorem stay_at {os : List Nat} {q j : Nat} (hj : j < os.length) : ((os.map fun k => under k q).map Value.bool)[((0 : Int) + (j : Int)).toNat]? = some (.bool (under (os.getD j 0) q)) := by
  rw [show ((0 : Int) + (j : Int)).toNat = j by omega]
  simp [List.getD, hj]
theorem opt_at {os : List Nat} {ys : List Value} {j : Nat} (hT : TxtsAre ys (os.map host2)) (hj : j < os.length) : ∃ t, ys[((0 : Int) + (j : Int)).toNat]? = some (.str (S (host2 (os.getD j 0))) t) := by
  rw [show ((0 : Int) + (j : Int)).toNat = j by omega]
  obtain ⟨v, h1, t, rfl⟩ := hT.get (i := j) (l := host2 (os.getD j 0)) (by simp [List.getD, hj])
  exact ⟨t, h1⟩
/-- the play's word -/
def pk (i : Nat) (a b : Bool) : Bool := if i = 0 then a else b
theorem pk_at {i : Nat} (hi : i < 2) (a b : Bool) : ([a, b].map Value.bool)[((0 : Int) + (i : Int)).toNat]? = some (.bool (pk i a b)) := by
  have e : ((0 : Int) + (i : Int)).toNat = i := by omega
  rw [e]
  rcases (show i = 0 ∨ i = 1 by omega) with rfl | rfl <;> rfl
theorem newsBack {h₀ : Heap} {L : Addr} {h : Heap} {a b c : List (Addr × Obj)} (N : News h₀ L h (a ++ (b ++ c))) : News h₀ L h (b ++ (c ++ a)) := fun q hq => by
  refine N q ?_
  simp only [List.mem_append] at hq ⊢
  rcases hq with h | h | h
  · exact .inr (.inl h)
  · exact .inr (.inr h)
  · exact .inl h
theorem game_pk {os : List Nat} {q i : Nat} {P1 P2 : Nat → Bool} {b1 b2 : Bool} (hi : i < 2) (g1 : Game os q P1 b1) (g2 : Game os q P2 b2) : Game os q (fun m => pk i (P1 m) (P2 m)) (pk i b1 b2) := by
  rcases (show i = 0 ∨ i = 1 by omega) with rfl | rfl
  · exact g1
  · exact g2
/-- the places that are lost, and those of them that are near -/
abbrev ledL (os : List Nat) (P : Nat → Bool) : List Int := ((List.range os.length).map fun i => (0 : Int) + ((i : Nat) : Int)).filter fun a => P (os.getD a.toNat 0)
abbrev nearL (os : List Nat) (q : Nat) (P : Nat → Bool) : List Int := (ledL os P).filter fun a => under (os.getD a.toNat 0) q || decide (host2 (os.getD a.toNat 0) = host2 q)
theorem near_x {os : List Nat} {q : Nat} {P : Nat → Bool} {b : Bool} (g : Game os q P b) : ∃ x, (∀ a ∈ nearL os q P, os.getD a.toNat 0 = x) ∧ (min (nearL os q P).length 1 = if b then 0 else 1) ∧ (decide (ledL os P = []) = b) := by
  have hmem : ∀ a ∈ ledL os P, ∃ j, j < os.length ∧ a.toNat = j ∧ P (os.getD j 0) = true := fun a ha => by
    obtain ⟨h1, h2⟩ := List.mem_filter.mp ha
    obtain ⟨j, hj, e⟩ := List.mem_map.mp h1
    have : a.toNat = j := by rw [← e]; omega
    exact ⟨j, List.mem_range.mp hj, this, by rw [this] at h2; exact h2⟩
  have hin : ∀ j, j < os.length → P (os.getD j 0) = true → ((0 : Int) + (j : Int)) ∈ ledL os P := fun j hj hp => by
    refine List.mem_filter.mpr ⟨List.mem_map.mpr ⟨j, List.mem_range.mpr hj, rfl⟩, ?_⟩
    rw [show ((0 : Int) + (j : Int)).toNat = j by omega]; exact hp
  cases b with
  | true =>
    have hnil : ledL os P = [] := by
      refine List.eq_nil_iff_forall_not_mem.mpr fun a ha => ?_
      obtain ⟨j, hj, _, hp⟩ := hmem a ha
      rw [g.1 rfl j hj] at hp; cases hp
    refine ⟨q, ?_, ?_, decide_eq_true hnil⟩
    · intro a ha; rw [nearL, hnil] at ha; cases ha
    · rw [nearL, hnil]; rfl
  | false =>
    obtain ⟨x, ⟨k, hk, hp, hn, e⟩, hu⟩ := g.2 rfl
    have hk2 := hin k hk hp
    have hk3 : ((0 : Int) + (k : Int)) ∈ nearL os q P := by
      refine List.mem_filter.mpr ⟨hk2, ?_⟩
      rw [show ((0 : Int) + (k : Int)).toNat = k by omega, Bool.or_eq_true, decide_eq_true_eq]
      exact hn.imp id fun e => by rw [e]
    refine ⟨x, fun a ha => ?_, ?_, decide_eq_false fun e => by rw [e] at hk2; cases hk2⟩
    · obtain ⟨h1, h2⟩ := List.mem_filter.mp ha
      obtain ⟨j, hj, ej, hpj⟩ := hmem a h1
      rw [ej] at h2 ⊢
      rw [Bool.or_eq_true, decide_eq_true_eq] at h2
      exact hu j hj hpj (h2.imp id host2_inj)
    · have : 0 < (nearL os q P).length := List.length_pos_of_mem hk3
      show min (nearL os q P).length 1 = 1
      omega
theorem r_eqIntsB {prog : Program} {w : World} {A : Around} {s : Shared} {E : Value → Shared → Prop} {Q : Value → Shared → Prop} {a b : Addr} {vs us : List Value} {ns ms : List Int} {c d : Nat} {r : Bool} (hl : s.heap.get? a = some { cls := .type "list", data := .seq vs.toArray c }) (hi : IntsAre vs ns) (hl' : s.heap.get? b = some { cls := .type "list", data := .seq us.toArray d }) (hi' : IntsAre us ms) (hu : A.units + 64 < cLine)
    (e : decide (ns = ms) = r) (h : Q (.bool r) s) : wpAny (model prog w) A (compareOp .Eq (.ref a) (.ref b)) Q E s := r_eqInts hl hi hl' hi' hu (by rw [e]; exact h)
theorem r_lenOneB {prog : Program} {w : World} {A : Around} {s : Shared} {E : Value → Shared → Prop} {Q : Value → Shared → Prop} {D : Addr} {x : Str} {n k : Nat} {K : Int} (hS : OneSet prog w s.heap D x n) (e : min n 1 = k) (eK : (k : Int) = K) (h : ∀ t' tk', Q (.int K t') { s with toks := tk' }) : wpAny (model prog w) A (call (.builtin "len") [.ref D]) Q E s :=
  r_lenOne hS (by rw [e, eK]; exact h)
theorem newsRe {h₀ : Heap} {L : Addr} {h : Heap} {a b c d : Addr × Obj} {x OB own : List (Addr × Obj)} (N : News h₀ L h (a :: b :: c :: d :: (x ++ (OB ++ own)))) : News h₀ L h (own ++ (x ++ OB)) := fun q hq => by
  have : q ∈ x ++ (OB ++ own) := ?_
  · exact N q (.tail _ (.tail _ (.tail _ (.tail _ this))))
  simp only [List.mem_append] at hq ⊢
  rcases hq with h | h | h
  · exact .inr (.inr h)
  · exact .inl h
  · exact .inr (.inl h)
theorem offFst {l k : List (Addr × Obj)} {I : Addr} (h : ∀ p ∈ k, p.1 ∉ [I]) (e : l.map (·.1) = k.map (·.1)) : ∀ p ∈ l, p.1 ∉ [I] := fun p hp q => by
  have h2 : p.1 ∈ k.map (·.1) := e ▸ List.mem_map_of_mem hp
  obtain ⟨r, hr, e2⟩ := List.mem_map.mp h2
  exact h r hr (e2 ▸ q)
theorem law_play {prog : Program} {w : World} {p : Program} {loose : List Str} {mean : ExcName → Option Value} {mg mb : Str → Option Value} {Q : Flow → Shared → Prop} {E : Value → Shared → Prop} {s : Shared} {h₀ : Heap} {L f : Addr} {cd : Value} {m : Str → Option Value} {o1 o2 o3 o4 o5 o6 o7 o8 : Obj} {tl : List Stmt}
   {oc : Value} {od : Option Addr} {osl : Array (Option Value)} {name qual : Str} {params : Arguments} {body : List Stmt} {scope : Scope} {dV kV doc pm cdv ct : Value} {an : Option Addr} {q : Nat} {t4 : Tok} {D22 D19 D9 D6 : Addr} {ds : List Addr} {os : List Nat} {ys : List Value} {c22 c9 c6 : Nat} {OB : List (Addr × Obj)} {b1 b2 : Bool} {P1 P2 : Nat → Bool}
   (hb : (hd.heap_39 w.params).lookup 105 = some ⟨oc, od, .func (fnOf name qual params body scope dV kV doc pm an cdv ct), osl⟩) (ht : tl = body.drop 15)
   (hpass : PassesOwn (model prog w) (callerA.deeper (envOfC qual scope L f cd)) (envOfC qual scope L f cd) E)
   (B : Below callerA h₀ [] h₀) (X : Frag.In (hd.heap_39 w.params) h₀) (Tt : Top p loose mean mg mb h₀) (F : Fr h₀ L s.heap m)
   (N : News h₀ L s.heap ((D22, { cls := .type "list", data := .seq (ds.map Value.ref).toArray c22 }) :: (D19, { cls := .type "list", data := .seq ([b1, b2].map Value.bool).toArray 0 }) :: (D9, { cls := .type "list", data := .seq ((os.map fun k => under k q).map Value.bool).toArray c9 }) :: (D6, { cls := .type "list", data := .seq ys.toArray c6 }) ::
     (L + 1 + 1 + 1 + 1 + 1 + 1 + 1 + 1, o8) :: (L + 1 + 1 + 1 + 1 + 1 + 1 + 1, o7) :: (L + 1 + 1 + 1 + 1 + 1 + 1, o6) :: (L + 1 + 1 + 1 + 1 + 1, o5) :: (L + 1 + 1 + 1 + 1, o4) :: (L + 1 + 1 + 1, o3) :: (L + 1 + 1, o2) :: (L + 1, o1) :: OB))
   (d4 : o4.data = .cell (some (.str (S (host2 q)) t4))) (d5 : o5.data = .cell (some (.ref D6))) (d6 : o6.data = .cell (some (.ref D9))) (d7 : o7.data = .cell (some (.ref D22))) (d8 : o8.data = .cell none)
   (eh : m (Str.ofString "here") = some (.ref D19)) (hT6 : TxtsAre ys (os.map host2)) (hds : ds.length = os.length) (hol : os.length ≤ 17)
   (hOB1 : ∀ j d, ds[j]? = some d → (d, ({ cls := .type "list", data := .seq ([P1 (os.getD j 0), P2 (os.getD j 0)].map Value.bool).toArray 0 } : Obj)) ∈ OB)
   (hC8 : ∀ p ∈ OB, p.1 ≠ L + 1 + 1 + 1 + 1 + 1 + 1 + 1 + 1)
   (n1 : @Ne Nat D22 (L + 1 + 1 + 1 + 1 + 1 + 1 + 1 + 1)) (n2 : @Ne Nat D19 (L + 1 + 1 + 1 + 1 + 1 + 1 + 1 + 1)) (n3 : @Ne Nat D9 (L + 1 + 1 + 1 + 1 + 1 + 1 + 1 + 1)) (n4 : @Ne Nat D6 (L + 1 + 1 + 1 + 1 + 1 + 1 + 1 + 1))
   (g1 : Game os q P1 b1) (g2 : Game os q P2 b2)
   (h : ∀ h' tk' m', Fr h₀ L h' m' → Q (.ret (.bool true)) { s with heap := h', toks := tk' }) :
   wpAny (model prog w) (callerA.deeper (envOfC qual scope L f cd)) (execs tl (envOfC qual scope L f cd)) Q E s := by
  revert hpass ht
  refine' lkSubst hb ?k ?_
  case k => k_is
  rintro rfl rfl rfl rfl rfl hpass
  dsimp only [List.drop]
  w_on
  w_strict ((try k_fold); (repeat' (first | (k_unfold; (try dsimp only)) | walk1 | (dsimp only; walk1) | (leave1; (try dsimp only)))))
  show wpAny _ _ _ _ _ _
  refine forC F (fun _ => rfl) hpass ?_
  w_strict (repeat' (first | (k_unfold; (try dsimp only)) | walk1 | (dsimp only; walk1) | (leave1; (try dsimp only))))
  rename IsRange _ _ _ _ _ _ _ _ => hR
  rename Fr _ _ _ _ => F1
  rename News _ _ _ _ => N1
  have hr8 := (N1 _ (.tail _ (.tail _ (.tail _ (.tail _ (.head _)))))).1
  refine forItC_src (srcRange (n := 2) rfl hR (by decide +kernel) (by decide +kernel) rfl) (rangeNe hR F1) F1 N1
    (fun i m₁ news₁ => ∃ o v₀, o.data = .cell v₀ ∧ m₁ (Str.ofString "here") = some (.ref D19) ∧ news₁ = [(D22, _), (D19, _), (D9, _), (D6, _), (L + 1 + 1 + 1 + 1 + 1 + 1 + 1 + 1, o), _, _, _, _, _, _, _] ++ OB) ⟨o8, _, d8, eh, rfl⟩ ?_ ?_
  · rintro I i a v m₁ news₁ h2 tk2 own ha ⟨ta, rfl⟩ ⟨o, v₀, d8', eh', rfl⟩ hw ho F₂ N₂
    have N₃ := newsBack N₂
    simp only [List.cons_append, List.nil_append] at N₃
    have hC8' : ∀ p ∈ OB ++ own, p.1 ≠ L + 1 + 1 + 1 + 1 + 1 + 1 + 1 + 1 := fun p hp e => by
      rcases List.mem_append.mp hp with q | q
      · exact hC8 p q e
      · rcases ho p q with e2 | e2
        · exact hw (L + 1 + 1 + 1 + 1 + 1 + 1 + 1 + 1, o) (by k_mem) (List.mem_singleton.mpr (e.symm.trans e2))
        · rw [e] at e2
          injection e2 with e2
          rw [← e2] at hr8
          rw [show _ = some _ from hR] at hr8
          cases hr8
          cases d8
    clear N₂
    refine wpAny_assign_Name ?_
    obtain ⟨hi, rfl⟩ : i < 2 ∧ a = (0 : Int) + (i : Int) := by
      rw [List.getElem?_map] at ha
      by_cases hi : i < 2
      · rw [List.getElem?_range hi] at ha
        exact ⟨hi, by simpa using ha.symm⟩
      · rw [List.getElem?_eq_none (by simp; omega)] at ha; cases ha
    have hys := hT6.len
    rw [List.length_map] at hys
    have hys2 : ys.length ≤ 1000000 := by omega
    w_strict (repeat' (first | (k_unfold; (try dsimp only)) | walk1 | (dsimp only; walk1) | (leave1; (try dsimp only))))
    show wpAny _ _ _ _ _ _
    refine' compA (cl := [(Str.ofString "play", L + 1 + 1 + 1 + 1 + 1 + 1 + 1 + 1), (Str.ofString "lost", L + 1 + 1 + 1 + 1 + 1 + 1 + 1)]) ?q1 ?q2 ?q3 ?q4 ?q5 ?q6 ?q7 ?q8 ?q9 ?_
    case q1 => with_unfolding_all rfl
    case q2 => with_unfolding_all rfl
    case q3 => decide
    case q4 => exact rfl
    case q5 => decide
    case q6 => exact rfl
    case q7 => exact rfl
    case q8 => exact rfl
    case q9 => intro _; exact rfl
    w_strict (repeat' (first | (k_unfold; (try dsimp only)) | walk1 | (dsimp only; walk1) | (leave1; (try dsimp only))))
    rename IsRange _ _ _ _ _ _ _ _ => hR2
    rename Fr _ _ _ _ => F5
    rename News _ _ _ _ => N5
    have hRu := rangeUp (a := 0) (b := (ys.length : Int)) (n := os.length) (by decide) (by omega) (by omega)
    refine compItA_src (srcRange (n := os.length) rfl hR2 hRu.1 hRu.2 rfl) rfl F5 N5 (by simp; exact fits6 (by omega)) (fun a _ b _ v => IsI.inj) (fun a => pk i (P1 (os.getD a.toNat 0)) (P2 (os.getD a.toNat 0))) (fun a y => IsI a y) ⟨?_, ?_⟩ ?_
    · rintro C a v s₃ m₃ E' ha2 ⟨ta2, rfl⟩ hm' F₁ N₁ F₃ N₃
      obtain ⟨j, hj, rfl⟩ := List.mem_map.mp ha2
      rw [List.mem_range] at hj
      have hd : ds[((0 : Int) + (j : Int)).toNat]? = some (ds[j]'(by omega)) := by
        rw [show ((0 : Int) + (j : Int)).toNat = j by omega]; exact List.getElem?_eq_getElem _
      have hd2 : (ds.map Value.ref)[((0 : Int) + (j : Int)).toNat]? = some (.ref (ds[j]'(by omega))) := by rw [List.getElem?_map, hd]; rfl
      refine tests_one ?_
      w_strict (repeat' (first | (k_unfold; (try dsimp only)) | walk1 | (dsimp only; walk1) | (leave1; (try dsimp only))))
      refine r_litem (N₁ _ (.head _)).1 (by omega) (by omega) hd2 ?_
      w_strict (repeat' (first | (k_unfold; (try dsimp only)) | walk1 | (dsimp only; walk1) | (leave1; (try dsimp only))))
      have hmem := hOB1 _ _ hd
      have hget := newsIn (pre := [_, _, _, _, _, _, _, _, _, _, _, _]) N₁ hmem
      refine r_litem hget (by omega) (by omega) (pk_at hi _ _) ?_
      w_strict (repeat' (first | (k_unfold; (try dsimp only)) | walk1 | (dsimp only; walk1) | (leave1; (try dsimp only))))
      exact ⟨_, _, rfl, fun _ _ e => e⟩
    · rintro C a v s₃ m₃ E' ha2 ⟨ta2, rfl⟩ _ hm' F₁ N₁ F₃ N₃
      w_strict (repeat' (first | (k_unfold; (try dsimp only)) | walk1 | (dsimp only; walk1) | (leave1; (try dsimp only))))
      · exact ⟨_, rfl⟩
      · exact ⟨_, _, rfl, fun _ _ e => e⟩
    intro D30 c30 h30 tk30 ys30 F30 N30 off30 hP30
    have hled := intsAre_of (f := fun a => a) hP30
    simp only [List.map_id'] at hled
    replace off30 := allNe_of off30
    simp only [AllNe, and_true] at off30
    clear hP30 F5 N5 hR2 hRu
    w_strict (repeat' (first | (k_unfold; (try dsimp only)) | walk1 | (dsimp only; walk1) | (leave1; (try dsimp only))))
    rename Fr _ _ _ _ => F6
    rename News _ _ _ _ => N6
    show wpAny _ _ _ _ _ _
    first
    | refine' compE (cl := [(Str.ofString "options", L + 1 + 1 + 1 + 1 + 1), (Str.ofString "stays", L + 1 + 1 + 1 + 1 + 1 + 1), (Str.ofString "bare", L + 1 + 1 + 1 + 1)]) (by with_unfolding_all rfl) ?q2 ?q3 ?q4 ?q5 ?q6 ?_
    | refine' compE (cl := [(Str.ofString "bare", L + 1 + 1 + 1 + 1), (Str.ofString "stays", L + 1 + 1 + 1 + 1 + 1 + 1), (Str.ofString "options", L + 1 + 1 + 1 + 1 + 1)]) (by with_unfolding_all rfl) ?q2 ?q3 ?q4 ?q5 ?q6 ?_
    | refine' compE (cl := [(Str.ofString "stays", L + 1 + 1 + 1 + 1 + 1 + 1), (Str.ofString "options", L + 1 + 1 + 1 + 1 + 1), (Str.ofString "bare", L + 1 + 1 + 1 + 1)]) (by with_unfolding_all rfl) ?q2 ?q3 ?q4 ?q5 ?q6 ?_
    | refine' compE (cl := [(Str.ofString "stays", L + 1 + 1 + 1 + 1 + 1 + 1), (Str.ofString "bare", L + 1 + 1 + 1 + 1), (Str.ofString "options", L + 1 + 1 + 1 + 1 + 1)]) (by with_unfolding_all rfl) ?q2 ?q3 ?q4 ?q5 ?q6 ?_
    | refine' compE (cl := [(Str.ofString "bare", L + 1 + 1 + 1 + 1), (Str.ofString "options", L + 1 + 1 + 1 + 1 + 1), (Str.ofString "stays", L + 1 + 1 + 1 + 1 + 1 + 1)]) (by with_unfolding_all rfl) ?q2 ?q3 ?q4 ?q5 ?q6 ?_
    | refine' compE (cl := [(Str.ofString "options", L + 1 + 1 + 1 + 1 + 1), (Str.ofString "bare", L + 1 + 1 + 1 + 1), (Str.ofString "stays", L + 1 + 1 + 1 + 1 + 1 + 1)]) (by with_unfolding_all rfl) ?q2 ?q3 ?q4 ?q5 ?q6 ?_
    case q2 => decide
    case q3 => exact rfl
    case q4 => decide
    case q5 => exact rfl
    case q6 => intro _; exact rfl
    w_strict (repeat' (first | (k_unfold; (try dsimp only)) | walk1 | (dsimp only; walk1) | (leave1; (try dsimp only))))
    have hLed := isl (N6 _ (.head _)).1
    have hlm : ∀ a ∈ ((List.range os.length).map fun i => (0 : Int) + ((i : Nat) : Int)).filter (fun a => pk i (P1 (os.getD a.toNat 0)) (P2 (os.getD a.toNat 0))), ∃ j : Nat, j < os.length ∧ a = (0 : Int) + (j : Int) := fun a ha => by
      obtain ⟨j, hj, e⟩ := List.mem_map.mp (List.mem_filter.mp ha).1
      exact ⟨j, List.mem_range.mp hj, e.symm⟩
    refine compIt_src (srcInts rfl hLed hled) F6 N6 (fits6 (Nat.le_trans (List.length_filter_le _ _) (by simp; omega))) (fun a _ b _ v => IsI.inj) (fun a => under (os.getD a.toNat 0) q || decide (host2 (os.getD a.toNat 0) = host2 q)) (fun a y => IsT (host2 (os.getD a.toNat 0)) y) ⟨?_, ?_⟩ ?_
    · rintro C a v s₃ m₃ E' ha2 ⟨ta2, rfl⟩ hm' F₁ N₁ F₃ N₃
      obtain ⟨j, hj, rfl⟩ := hlm a ha2
      obtain ⟨to, hto⟩ := opt_at hT6 hj
      have e0 : ((0 : Int) + (j : Int)).toNat = j := by omega
      refine tests_one ?_
      w_strict (repeat' (first | (k_unfold; (try dsimp only)) | walk1 | (dsimp only; walk1) | (leave1; (try dsimp only))))
      refine r_litem (N₁ _ (.tail _ (.tail _ (.tail _ (.head _))))).1 (by omega) (by omega) (stay_at hj) ?_
      rw [e0]
      cases hu : under (os.getD j 0) q with
      | true =>
        w_strict (repeat' (first | (k_unfold; (try dsimp only)) | walk1 | (dsimp only; walk1) | (leave1; (try dsimp only))))
        all_goals first
        | exact ⟨_, _, rfl, fun _ _ e => e⟩
        | (rw [Bool.false_or]; first | exact (decide_eq_true (by assumption)).symm | exact (decide_eq_false (by assumption)).symm | exact Eq.symm (by assumption))
        | rfl
      | false =>
        w_strict (repeat' (first | (k_unfold; (try dsimp only)) | walk1 | (dsimp only; walk1) | (leave1; (try dsimp only))))
        refine r_litem (N₁ _ (.tail _ (.tail _ (.tail _ (.tail _ (.head _)))))).1 (by omega) (by omega) hto ?_
        w_strict (repeat' (first | (k_unfold; (try dsimp only)) | walk1 | (dsimp only; walk1) | (leave1; (try dsimp only))))
        all_goals first
        | exact ⟨_, _, rfl, fun _ _ e => e⟩
        | (rw [Bool.false_or]; first | exact (decide_eq_true (by assumption)).symm | exact (decide_eq_false (by assumption)).symm | exact Eq.symm (by assumption))
        | rfl
    · rintro C a v s₃ m₃ E' ha2 ⟨ta2, rfl⟩ _ hm' F₁ N₁ F₃ N₃
      obtain ⟨j, hj, rfl⟩ := hlm a ha2
      obtain ⟨to, hto⟩ := opt_at hT6 hj
      w_strict (repeat' (first | (k_unfold; (try dsimp only)) | walk1 | (dsimp only; walk1) | (leave1; (try dsimp only))))
      refine r_litem (N₁ _ (.tail _ (.tail _ (.tail _ (.tail _ (.head _)))))).1 (by omega) (by omega) hto ?_
      w_strict (repeat' (first | (k_unfold; (try dsimp only)) | walk1 | (dsimp only; walk1) | (leave1; (try dsimp only))))
      · rw [show ((0 : Int) + (j : Int)).toNat = j by omega]; exact ⟨_, rfl⟩
      · exact ⟨_, _, rfl, fun _ _ e => e⟩
    intro D31 c31 h31 tk31 ys31 F31 N31 off31 hP31
    w_strict (repeat' (first | (k_unfold; (try dsimp only)) | walk1 | (dsimp only; walk1) | (leave1; (try dsimp only))))
    have gi := game_pk hi g1 g2
    have hys31 := TxtsAre.ofPaired hP31
    obtain ⟨x, hx1, hx2, hx3⟩ := near_x gi
    show wpAny _ _ _ _ _ _
    have hD31 := isl (N31 _ (.head _)).1
    refine oneSet_call (x := S (host2 x)) rfl hD31 ?_ ?_
    · intro k v hv
      obtain ⟨l, hl, tl, rfl⟩ := hys31.at k v (by simpa using hv)
      obtain ⟨a, ha, rfl⟩ := List.mem_map.mp (List.mem_of_getElem? hl)
      exact ⟨tl, by rw [hx1 a ha]⟩
    intro h32 tk32 hS st32
    have F32 := frStays F31 st32
    have hS0 := hS
    obtain ⟨oS, esS, epS, ttS, hoS, rS⟩ := hS0
    have N32 := newsOf F31 N31 st32 (freshAt _) hoS
    clear F31 N31 hD31
    w_strict (repeat' (first | (k_unfold; (try dsimp only)) | walk1 | (dsimp only; walk1) | (leave1; (try dsimp only))))
    rename Fr _ _ _ _ => F33
    rename News _ _ _ _ => N33
    show wpAny _ _ _ _ _ _
    refine r_eqIntsB (us := []) (N33 _ (.tail _ (.tail _ (.tail _ (.head _))))).1 hled (N33 _ (.head _)).1 .nil ?hu hx3 ?_
    case hu =>
      show callerA.units + 3 + 64 < cLine
      decide
    w_strict (repeat' (first | (k_unfold; (try dsimp only)) | walk1 | (dsimp only; walk1) | (leave1; (try dsimp only))))
    refine r_litem (N33 _ (.tail _ (.tail _ (.tail _ (.tail _ (.tail _ (.head _))))))).1 (by omega) (by omega) (pk_at hi _ _) ?_
    w_strict (repeat' (first | (k_unfold; (try dsimp only)) | walk1 | (dsimp only; walk1) | (leave1; (try dsimp only))))
    rename Fr _ _ _ _ => F34
    rename News _ _ _ _ => N34
    show wpAny _ _ _ _ _ _
    have hS2 : OneSet prog w _ _ (S (host2 x)) ys31.toArray.size := ⟨oS, esS, epS, ttS, (N34 _ (.tail _ (.head _))).1, rS⟩
    have hx4 : min ys31.toArray.size 1 = if pk i b1 b2 then 0 else 1 := by
      rw [List.size_toArray, hys31.len, List.length_map]; exact hx2
    have hat := pk_at hi b1 b2
    cases hpk : pk i b1 b2 with
    | true =>
      rw [hpk] at hx4 hat
      refine r_lenOneB (k := 0) (K := 0) hS2 hx4 rfl ?_
      intro t35 tk35
      w_strict (repeat' (first | (k_unfold; (try dsimp only)) | walk1 | (dsimp only; walk1) | (leave1; (try dsimp only))))
      refine r_litem (N34 _ (.tail _ (.tail _ (.tail _ (.tail _ (.tail _ (.head _))))))).1 (by omega) (by omega) hat ?_
      w_strict (repeat' (first | (k_unfold; (try dsimp only)) | walk1 | (dsimp only; walk1) | (leave1; (try dsimp only))))
      have N35 := newsRe (x := [_, _, _, _, _, _, _, _, _, _, _, _]) N34
      refine ⟨rfl, _, _, _, _, rfl, F34, N35, offFst hw rfl, ?_⟩
      exact ⟨_, _, by assumption, eh', rfl⟩
    | false =>
      rw [hpk] at hx4 hat
      refine r_lenOneB (k := 1) (K := 1) hS2 hx4 rfl ?_
      intro t35 tk35
      w_strict (repeat' (first | (k_unfold; (try dsimp only)) | walk1 | (dsimp only; walk1) | (leave1; (try dsimp only))))
      refine r_litem (N34 _ (.tail _ (.tail _ (.tail _ (.tail _ (.tail _ (.head _))))))).1 (by omega) (by omega) hat ?_
      w_strict (repeat' (first | (k_unfold; (try dsimp only)) | walk1 | (dsimp only; walk1) | (leave1; (try dsimp only))))
      have N35 := newsRe (x := [_, _, _, _, _, _, _, _, _, _, _, _]) N34
      refine ⟨rfl, _, _, _, _, rfl, F34, N35, offFst hw rfl, ?_⟩
      exact ⟨_, _, by assumption, eh', rfl⟩
  · rintro m₁ news₁ h2 tk2 ⟨o, v₀, d8', eh', rfl⟩ F₂ N₂
    w_strict (repeat' (first | (k_unfold; (try dsimp only)) | walk1 | (dsimp only; walk1) | (leave1; (try dsimp only))))
    exact h _ _ _ F₂
end Mine

end PartH7
section PartH8
open PySem PySem.W PySem.Calls PyProof.Rows
set_option maxRecDepth 100000
set_option maxHeartbeats 8000000
set_option pp.deepTerms false
set_option pp.deepTerms.threshold 8
namespace Mine
local macro_rules | `(tactic| walk_at "zz none") => `(tactic| fail "none")
local macro_rules | `(tactic| walk_at "zz none") => `(tactic| fail "none")
local macro_rules | `(tactic| walk_at "zz none") => `(tactic| fail "none")
local macro_rules | `(tactic| walk_at "zz none") => `(tactic| fail "none")
local macro_rules | `(tactic| walk_at "zz none") => `(tactic| fail "none")
local macro_rules | `(tactic| walk_at "zz none") => `(tactic| fail "none")
local macro_rules | `(tactic| walk_at "zz none") => `(tactic| fail "none")
local macro_rules | `(tactic| walk_at "zz none") => `(tactic| fail "none")
local macro_rules | `(tactic| walk_at "zz none") => `(tactic| fail "none")
local macro_rules | `(tactic| walk_at "zz none") => `(tactic| fail "none")
local macro_rules | `(tactic| walk_at "zz none") => `(tactic| fail "none")
local macro_rules | `(tactic| walk_at "zz none") => `(tactic| fail "none")
local macro_rules | `(tactic| walk_at "zz none") => `(tactic| fail "none")
local macro_rules | `(tactic| walk_at "zz none") => `(tactic| fail "none")
local macro_rules | `(tactic| walk_at "zz none") => `(tactic| fail "none")
local macro_rules | `(tactic| walk_at "zz none") => `(tactic| fail "none")
local macro_rules | `(tactic| walk_at "zz none") => `(tactic| fail "none")
local macro_rules | `(tactic| walk_at "zz none") => `(tactic| fail "none")
local macro_rules | `(tactic| walk_at "zz none") => `(tactic| fail "none")
local macro_rules | `(tactic| walk_at "zz none") => `(tactic| fail "none")
local macro_rules | `(tactic| walk_at "zz none") => `(tactic| fail "none")
local macro_rules | `(tactic| walk_at "zz none") => `(tactic| fail "none")
local macro_rules | `(tactic| walk_at "zz none") => `(tactic| fail "none")
local macro_rules | `(tactic| walk_at "zz none") => `(tactic| fail "none")
local macro_rules | `(tactic| walk_at "zz none") => `(tactic| fail "none")
local macro_rules | `(tactic| walk_at "zz none") => `(tactic| fail "none")
local macro_rules | `(tactic| walk_at "zz none") => `(tactic| fail "none")
local macro_rules | `(tactic| walk_at "zz none") => `(tactic| fail "none")
local macro_rules | `(tactic| walk_at "zz none") => `(tactic| fail "none")
local macro_rules | `(tactic| walk_at "zz none") => `(tactic| fail "none")
local macro_rules | `(tactic| walk_at "zz none") => `(tactic| fail "none")
local macro_rules | `(tactic| walk_at "zz none") => `(tactic| fail "none")
local macro_rules | `(tactic| walk_at "zz none") => `(tactic| fail "none")
local macro_rules | `(tactic| walk_at "zz none") => `(tactic| fail "none")
local macro_rules | `(tactic| walk_at "zz none") => `(tactic| fail "none")
local macro_rules | `(tactic| walk_at "zz none") => `(tactic| fail "none")
local macro_rules | `(tactic| walk_at "zz none") => `(tactic| fail "none")
local macro_rules | `(tactic| walk_at "zz none") => `(tactic| fail "none")
local macro_rules | `(tactic| walk_at "zz none") => `(tactic| fail "none")
local macro_rules | `(tactic| walk_at "zz none") => `(tactic| fail "none")
local macro_rules | `(tactic| walk_at "zz none") => `(tactic| fail "none")
local macro_rules | `(tactic| walk_at "zz none") => `(tactic| fail "none")
local macro_rules | `(tactic| walk_at "zz none") => `(tactic| fail "none")
local macro_rules | `(tactic| walk_at "zz none") => `(tactic| fail "none")
local macro_rules | `(tactic| walk_at "zz none") => `(tactic| fail "none")
local macro_rules | `(tactic| walk_at "zz none") => `(tactic| fail "none")
local macro_rules | `(tactic| walk_at "zz none") => `(tactic| fail "none")
local macro_rules | `(tactic| walk_at "zz none") => `(tactic| fail "none")
local macro_rules | `(tactic| walk_at "zz none") => `(tactic| fail "none")
local macro_rules | `(tactic| walk_at "zz none") => `(tactic| fail "none")
local macro_rules | `(tactic| walk_at "zz none") => `(tactic| fail "none")
local macro_rules | `(tactic| walk_at "zz none") => `(tactic| fail "none")
local macro_rules | `(tactic| walk_at "zz none") => `(tactic| fail "none")
local macro_rules | `(tactic| walk_at "zz none") => `(tactic| fail "none")
local macro_rules | `(tactic| walk_at "zz none") => `(tactic| fail "none")
local macro_rules | `(tactic| walk_at "zz none") => `(tactic| fail "none")
local macro_rules | `(tactic| walk_at "zz none") => `(tactic| fail "none")
local macro_rules | `(tactic| walk_at "zz none") => `(tactic| fail "none")
local macro_rules | `(tactic| walk_at "zz none") => `(tactic| fail "none")
local macro_rules | `(tactic| walk_at "zz none") => `(tactic| fail "none")
local macro_rules | `(tactic| walk_at "zz none") => `(tactic| fail "none")
local macro_rules | `(tactic| walk_at "zz none") => `(tactic| fail "none")
local macro_rules | `(tactic| walk_at "zz none") => `(tactic| fail "none")
local macro_rules | `(tactic| walk_at "zz none") => `(tactic| fail "none")
local macro_rules | `(tactic| walk_at "zz none") => `(tactic| fail "none")
local macro_rules | `(tactic| walk_at "zz none") => `(tactic| fail "none")
local macro_rules | `(tactic| walk_at "zz none") => `(tactic| fail "none")
local macro_rules | `(tactic| walk_at "zz none") => `(tactic| fail "none")
local macro_rules | `(tactic| walk_at "zz none") => `(tactic| fail "none")
local macro_rules | `(tactic| walk_at "zz none") => `(tactic| fail "none")
local macro_rules | `(tactic| walk_at "zz none") => `(tactic| fail "none")
local macro_rules | `(tactic| walk_at "zz none") => `(tactic| fail "none")
local macro_rules | `(tactic| walk_at "zz none") => `(tactic| fail "none")
local macro_rules | `(tactic| walk_at "zz none") => `(tactic| fail "none")
local macro_rules | `(tactic| walk_at "zz none") => `(tactic| fail "none")
local macro_rules | `(tactic| walk_at "zz none") => `(tactic| fail "none")
local macro_rules | `(tactic| walk_at "zz none") => `(tactic| fail "none")
local macro_rules | `(tactic| walk_at "zz none") => `(tactic| fail "none")
local macro_rules | `(tactic| walk_at "zz none") => `(tactic| fail "none")
local macro_rules | `(tactic| walk_at "zz none") => `(tactic| fail "none")
local macro_rules | `(tactic| walk_at "zz none") => `(tactic| fail "none")
local macro_rules | `(tactic| walk_at "zz none") => `(tactic| fail "none")
local macro_rules | `(tactic| walk_at "zz none") => `(tactic| fail "none")
local macro_rules | `(tactic| walk_at "zz none") => `(tactic| fail "none")
local macro_rules | `(tactic| walk_at "zz none") => `(tactic| fail "none")
local macro_rules | `(tactic| walk_at "zz none") => `(tactic| fail "none")
local macro_rules | `(tactic| walk_at "zz none") => `(tactic| fail "none")
local macro_rules | `(tactic| walk_at "zz none") => `(tactic| fail "none")
local macro_rules | `(tactic| walk_at "zz none") => `(tactic| fail "none")
local macro_rules | `(tactic| walk_at "zz none") => `(tactic| fail "none")
local macro_rules | `(tactic| walk_at "zz none") => `(tactic| fail "none")
local macro_rules | `(tactic| walk_at "zz none") => `(tactic| fail "none")
local macro_rules | `(tactic| walk_at "zz none") => `(tactic| fail "none")
local macro_rules | `(tactic| walk_at "zz none") => `(tactic| fail "none")
local macro_rules | `(tactic| walk_at "zz none") => `(tactic| fail "none")
local macro_rules | `(tactic| walk_at "zz none") => `(tactic| fail "none")
local macro_rules | `(tactic| walk_at "zz none") => `(tactic| fail "none")
local macro_rules | `(tactic| walk_at "zz none") => `(tactic| fail "none")
local macro_rules | `(tactic| walk_at "zz none") => `(tactic| fail "none")
local macro_rules | `(tactic| walk_at "zz none") => `(tactic| fail "none")
local macro_rules | `(tactic| walk_at "zz none") => `(tactic| fail "none")
local macro_rules | `(tactic| walk_at "zz none") => `(tactic| fail "none")
local macro_rules | `(tactic| walk_at "zz none") => `(tactic| fail "none")
local macro_rules | `(tactic| walk_at "zz none") => `(tactic| fail "none")
local macro_rules | `(tactic| walk_at "zz none") => `(tactic| fail "none")
local macro_rules | `(tactic| walk_at "zz none") => `(tactic| fail "none")
local macro_rules | `(tactic| walk_at "zz none") => `(tactic| fail "none")
local macro_rules | `(tactic| walk_at "zz none") => `(tactic| fail "none")
local macro_rules | `(tactic| walk_at "zz none") => `(tactic| fail "none")
local macro_rules | `(tactic| walk_at "zz none") => `(tactic| fail "none")
local macro_rules | `(tactic| walk_at "zz none") => `(tactic| fail "none")
local macro_rules | `(tactic| walk_at "zz none") => `(tactic| fail "none")
local macro_rules | `(tactic| walk_at "zz none") => `(tactic| fail "none")
local macro_rules | `(tactic| walk_at "zz none") => `(tactic| fail "none")
local macro_rules | `(tactic| walk_at "zz none") => `(tactic| fail "none")
local macro_rules | `(tactic| walk_at "zz none") => `(tactic| fail "none")
local macro_rules | `(tactic| walk_at "zz none") => `(tactic| fail "none")
local macro_rules | `(tactic| walk_at "zz none") => `(tactic| fail "none")
local macro_rules | `(tactic| walk_at "zz none") => `(tactic| fail "none")
theorem fillh8 : PySem.Challenge.rw_rl0024_02.wellSaid = true ∧ hd.heap_39 = hd.heap_39 → True := by
  k_fill
  exact fun _ => trivial
local macro_rules | `(tactic| walk_at "eval Name") => `(tactic| (k_here; k_dflt (first
  | (refine' nmL ?k1 ?k2 ?_; (case k1 => k_asm); (case k2 => assumption); k_whole)
  | (refine' nmK ?k1 ?k2 ?k3 ?k4 ?_; (case k1 => k_asm); (case k2 => k_asm); (case k3 => k_asm); (case k4 => k_is); k_whole)
  | (refine' nmB ?k1 ?k2 ?k3 ?k4 ?k5 ?k6 ?_; (case k1 => k_asm); (case k2 => k_asm); (case k3 => k_asm); (case k4 => k_is); (case k5 => boot_by_name); (case k6 => decide); k_whole)
  | (refine' nmC ?k1 ?k2 ?k3 ?k4 ?_; (case k1 => k_asm); (case k2 => exact rfl); (case k3 => k_mem); (case k4 => assumption); k_whole)
  | (refine' ldQ ?k1 ?k2 ?_; (case k1 => k_asm); (case k2 => assumption); k_whole))))
local macro_rules | `(tactic| walk_at "exec While BoolOp cons nil") => `(tactic| (k_here; refine Stop.mk ?_))
local macro_rules | `(tactic| walk_at "eval ListComp") => `(tactic| (k_here; refine Stop.mk ?_))
local macro_rules | `(tactic| walk_at "exec Assign cons ListComp") => `(tactic| (k_here; (with_reducible show wpAny _ _ (exec (Stmt.Assign [Expr.Name (Str.ofString "led") _] _ _) _) _ _ _); refine Stop.mk ?_))
local macro_rules | `(tactic| walk_at "compareOp NotEq ref ref") => `(tactic| (k_here; refine Stop.mk ?_))
local macro_rules | `(tactic| walk_at "compareOp Eq ref ref") => `(tactic| (k_here; refine Stop.mk ?_))
local macro_rules | `(tactic| walk_at "call type:enumerate") => `(tactic| (k_here; refine Stop.mk ?_))
local macro_rules | `(tactic| walk_at "call builtin:sum") => `(tactic| (k_here; refine Stop.mk ?_))
local macro_rules | `(tactic| walk_at "call builtin:str.split") => `(tactic| (k_here; refine Stop.mk ?_))
local macro_rules | `(tactic| walk_at "call builtin:list.append") => `(tactic| (k_here; refine Stop.mk ?_))
local macro_rules | `(tactic| walk_at "eval Constant str") => `(tactic| ((first | with_reducible refine r_const sDot ?_); intro _ _; (try dsimp only)))
local macro_rules | `(tactic| walk_at "call ref") => `(tactic| (k_here; (with_reducible show wpAny _ _ (call (Value.ref 64) [Value.str (S (host2 _)) _]) _ _ _); k_dflt (refine' reach2_at (ambOf ?B ?F ?X ?T ?hA ?hf ?hk) ?d ?x ?_; (case B => k_asm); (case hA => exact rfl); (case hf => exact rfl); (case hk => exact rfl); (case F => k_asm); (case X => k_asm); (case T => k_asm); (case d => first | decide | ((try dsimp only); omega) | ktr_room); (case x => assumption); intro h' t' tk' st'; (have F' := frStays (by k_asm) st'); (have N' := newsStays (by k_asm) st'); (try dsimp only); (try k_sweep))))
local macro_rules | `(tactic| walk_at "call ref") => `(tactic| (k_here; (with_reducible show wpAny _ _ (call (Value.ref 57) _) _ _ _); k_dflt (refine' udmE (ambOf ?B ?F ?X ?T ?hA ?hf ?hk) ?d ?x ?y ?e ?_; (case B => k_asm); (case hA => exact rfl); (case hf => exact rfl); (case hk => exact rfl); (case F => k_asm); (case X => k_asm); (case T => k_asm); (case d => first | decide | ((try dsimp only); omega) | ktr_room); (case x => assumption); (case y => assumption); (case e => assumption); intro h' tk' st'; (have F' := frStays (by k_asm) st'); (have N' := newsStays (by k_asm) st'); (try dsimp only); (try k_sweep))))
local macro_rules | `(tactic| walk_at "call ref") => `(tactic| (k_here; (with_reducible show wpAny _ _ (call (Value.ref 83) _) _ _ _); k_dflt (refine' letters_at (ambOf ?B ?F ?X ?T ?hA ?hf ?hk) ?d ?x ?_; (case B => k_asm); (case hA => exact rfl); (case hf => exact rfl); (case hk => exact rfl); (case F => k_asm); (case X => k_asm); (case T => k_asm); (case d => first | decide | ((try dsimp only); omega) | ktr_room); (case x => assumption); intro h' t' tk' st'; (have F' := frStays (by k_asm) st'); (have N' := newsStays (by k_asm) st'); (try dsimp only); (try k_sweep))))
local macro_rules | `(tactic| walk_at "call ref") => `(tactic| (k_here; (with_reducible show wpAny _ _ (call (Value.ref 76) _) _ _ _); k_dflt (refine' host2_to (ambOf ?B ?F ?X ?T ?hA ?hf ?hk) ?d ?x ?_; (case B => k_asm); (case hA => exact rfl); (case hf => exact rfl); (case hk => exact rfl); (case F => k_asm); (case X => k_asm); (case T => k_asm); (case d => first | decide | ((try dsimp only); omega) | ktr_room); (case x => assumption); intro h' t' tk' st'; (have F' := frStays (by k_asm) st'); (have N' := newsStays (by k_asm) st'); (try dsimp only); (try k_sweep))))
local macro_rules | `(tactic| walk_at "subscriptTail") => `(tactic| (k_here; (with_reducible show wpAny _ _ (subscriptTail _ (Expr.Slice _ _ _ _) (Value.str (S (_ :: _)) _) (Value.ref _)) _ _ _); k_dflt (refine cons_tail (by k_asm) (by k_asm) (by assumption) ?_); intro h' t' tk' F' N'; (try dsimp only); (try k_sweep)))
local macro_rules | `(tactic| walk_at "subscriptTail") => `(tactic| (k_here; (with_reducible show wpAny _ _ (subscriptTail _ (Expr.Slice _ _ _ _) (Value.ref _) (Value.ref _)) _ _ _); refine Stop.mk ?_))
local macro_rules | `(tactic| walk_at "compareOp NotEq str str") => `(tactic| (k_here; k_dflt (first | refine r_neT (by assumption) ?_ | refine r_neF rfl ?_); (try dsimp only)))
local macro_rules | `(tactic| walk_at "compareOp Eq str str") => `(tactic| (k_here; k_dflt (first | refine r_eF (by assumption) ?_ | refine r_eT rfl ?_ | refine r_eq ?_); (try dsimp only)))
local macro_rules | `(tactic| walk_at "call builtin:str.lower") => `(tactic| (k_here; (refine r_lower (okT.asc (And.left (by assumption))) (And.right (by assumption)) ?_; intro _ _; (try dsimp only))))
local macro_rules | `(tactic| walk_at "compareOp Eq int int") => `(tactic| (k_here; k_dflt (refine r_eIT rfl ?_); (try dsimp only)))
local macro_rules | `(tactic| walk_at "compareOp IsNot bool bool") => `(tactic| (k_here; refine r_isntF rfl ?_))
local macro_rules | `(tactic| walk_at "call builtin:ord") => `(tactic| (k_here; k_dflt (refine r_ord ?_); intro _ _; (try dsimp only)))
local macro_rules | `(tactic| walk_at "call builtin:len") => `(tactic| (k_here; (with_reducible show wpAny _ _ (call (Value.builtin "len") [Value.ref _]) _ _ _); k_dflt (refine' r_llen ?N ?m ?z ?_; (case N => k_asm); (case m => k_mem); (case z => omega); intro t' tk'; (try dsimp only))))
local macro_rules | `(tactic| walk_at "call builtin:len") => `(tactic| (k_here; (with_reducible show wpAny _ _ (call (Value.builtin "len") [Value.str (S _) _]) _ _ _); k_dflt (refine r_len (by assumption) ?_); intro _ _; (try dsimp only)))
local macro_rules | `(tactic| walk_at "binaryOp Pow int int") => `(tactic| (k_here; k_dflt (refine r_pow (by omega) (by omega) (by decide) ?_); intro _ _; (try dsimp only)))
local macro_rules | `(tactic| walk_at "binaryOp Mult int int") => `(tactic| (k_here; k_dflt (refine r_mul (by omega) ?_); intro _ _; (try dsimp only)))
local macro_rules | `(tactic| walk_at "binaryOp FloorDiv int int") => `(tactic| (k_here; k_dflt (refine r_fdiv (by assumption) (by assumption) ?_); intro _ _; (try dsimp only)))
local macro_rules | `(tactic| walk_at "binaryOp Add str str") => `(tactic| (k_here; k_dflt (refine r_add (by assumption) ?_); intro _ _; (try dsimp only)))
local macro_rules | `(tactic| walk_at "execs cons") => `(tactic| (k_here; (with_reducible show wpAny _ _ (execs (Stmt.For _ _ _ _ _ :: _) _) _ _ _); refine Stop.mk ?_))
local macro_rules | `(tactic| walk_at "binaryOp Add ref ref") => `(tactic| (k_here; refine Stop.mk ?_))
local macro_rules | `(tactic| walk_at "call type:list") => `(tactic| (k_here; refine Stop.mk ?_))
local macro_rules | `(tactic| walk_at "call builtin:min") => `(tactic| (k_here; refine Stop.mk ?_))
local macro_rules | `(tactic| walk_at "call ref") => `(tactic| (k_here; (with_reducible show wpAny _ _ (call (Value.ref 100) _) _ _ _); refine Stop.mk ?_))
local macro_rules | `(tactic| walk_at "call ref") => `(tactic| (k_here; (with_reducible show wpAny _ _ (call (Value.ref 95) _) _ _ _); refine Stop.mk ?_))
local macro_rules | `(tactic| walk_at "call ref") => `(tactic| (k_here; (with_reducible show wpAny _ _ (call (Value.ref 88) _) _ _ _); k_dflt (refine' named_to (ambOf ?B ?F ?X ?T ?hA ?hf ?hk) ?d ?u ?x ?_; (case B => k_asm); (case hA => exact rfl); (case hf => exact rfl); (case hk => exact rfl); (case F => k_asm); (case X => k_asm); (case T => k_asm); (case d => first | decide | ((try dsimp only); omega) | ktr_room); (case u => decide); (case x => assumption); intro h' tk' st'; (have F' := frStays (by k_asm) st'); (have N' := newsStays (by k_asm) st'); (try dsimp only); (try k_sweep))))
local macro_rules | `(tactic| walk_at "call ref") => `(tactic| (k_here; (with_reducible show wpAny _ _ (call (Value.ref 64) [Value.str (S (host2 _)) _]) _ _ _); k_dflt (refine' reach2_pos_at (ambOf ?B ?F ?X ?T ?hA ?hf ?hk) ?d ?x ?_; (case B => k_asm); (case hA => exact rfl); (case hf => exact rfl); (case hk => exact rfl); (case F => k_asm); (case X => k_asm); (case T => k_asm); (case d => first | decide | ((try dsimp only); omega) | ktr_room); (case x => assumption); intro h' t' tk' st'; (have F' := frStays (by k_asm) st'); (have N' := newsStays (by k_asm) st'); (try dsimp only); (try k_sweep))))

local macro_rules | `(tactic| k_all) => `(tactic| assumption)
theorem rangeKs_eq (a : Int) (n : Nat) : rangeKs a n = (List.range n).map fun i => a + ((i : Nat) : Int) := by
  unfold rangeKs; rfl
theorem opts_map (n b : Nat) : (((List.range b).map fun i => (1 : Int) + ((i : Nat) : Int)).map fun a => host2 (n - a.toNat)) ++ [host2 (n / 16)] = (opts n b).map host2 := by
  unfold opts
  rw [List.map_append, List.map_map, List.map_map]
  refine congr (congrArg _ (List.map_congr_left fun j _ => ?_)) rfl
  show host2 (n - ((1 : Int) + (j : Int)).toNat) = host2 (n - (1 + j))
  rw [show ((1 : Int) + (j : Int)).toNat = 1 + j by omega]
theorem opts_le {n b : Nat} : ∀ m ∈ opts n b, m ≤ n := by
  intro m hm
  rcases List.mem_append.mp hm with h | h
  · obtain ⟨i, _, rfl⟩ := List.mem_map.mp h; exact Nat.sub_le _ _
  · rw [List.mem_singleton.mp h]; exact Nat.div_le_self _ _
theorem due_yes2 {j n : Nat} (h : (1 + (j : Int)) ≤ (n : Int).fmod 16) : Value.bool (decide ((1 + (j : Int)) < (n : Int))) = Value.bool (decide ((1 + (j : Int)).toNat ≤ n % 16) && decide ((1 + (j : Int)).toNat < n)) := by
  rw [show (16 : Int) = ((16 : Nat) : Int) from rfl, fmodN] at h
  rw [decide_eq_true (show (1 + (j : Int)).toNat ≤ n % 16 by omega), Bool.true_and]
  congr 1
  rw [Bool.eq_iff_iff, decide_eq_true_eq, decide_eq_true_eq]; omega
theorem due_no2 {j n : Nat} (h : ¬ (1 + (j : Int)) ≤ (n : Int).fmod 16) : Value.bool (decide ((1 + (j : Int)) ≤ (n : Int).fmod 16)) = Value.bool (decide ((1 + (j : Int)).toNat ≤ n % 16) && decide ((1 + (j : Int)).toNat < n)) := by
  rw [decide_eq_false h]
  rw [show (16 : Int) = ((16 : Nat) : Int) from rfl, fmodN] at h
  rw [decide_eq_false (show ¬ (1 + (j : Int)).toNat ≤ n % 16 by omega), Bool.false_and]
/-- what the stays are due to be -/
theorem dues_eq {n b : Nat} (hb : b < 16) (hn : b ≤ n) : (((List.range b).map fun i => (1 : Int) + ((i : Nat) : Int)).map fun a => Value.bool (decide (a.toNat ≤ n % 16) && decide (a.toNat < n))) ++ [Value.bool false] = ((opts n b).map fun k => under k (n / 16)).map Value.bool := by
  unfold opts
  rw [List.map_append, List.map_append, List.map_map, List.map_map, List.map_map]
  refine congr (congrArg _ (List.map_congr_left fun j hj => ?_)) ?_
  · rw [List.mem_range] at hj
    show Value.bool (decide (((1 : Int) + (j : Int)).toNat ≤ n % 16) && decide (((1 : Int) + (j : Int)).toNat < n)) = Value.bool (under (n - (1 + j)) (n / 16))
    rw [under_take (by omega) (by omega) (by omega), show ((1 : Int) + (j : Int)).toNat = 1 + j by omega]
  · show [Value.bool false] = [Value.bool (under (n / 16) (n / 16))]
    rw [under_self]
theorem low_ok2 {l : List Nat} (h : okT l ∧ l.length ≤ 1000000) : okT (l.map lo1) ∧ (l.map lo1).length ≤ 1000000 := ⟨h.1.low, lenLow h.2⟩
theorem newsFive {h₀ : Heap} {L : Addr} {h : Heap} {a b c d e : Addr × Obj} {r : List (Addr × Obj)} (N : News h₀ L h (a :: b :: c :: d :: e :: r)) : News h₀ L h (a :: b :: c :: d :: r) := fun q hq => N q (by
  simp only [List.mem_cons] at hq ⊢
  rcases hq with h | h | h | h | h
  · exact .inl h
  · exact .inr (.inl h)
  · exact .inr (.inr (.inl h))
  · exact .inr (.inr (.inr (.inl h)))
  · exact .inr (.inr (.inr (.inr (.inr h)))))
theorem law_mid {prog : Program} {w : World} {p : Program} {loose : List Str} {mean : ExcName → Option Value} {mg mb : Str → Option Value} {Q : Flow → Shared → Prop} {E : Value → Shared → Prop} {s : Shared} {h₀ : Heap} {L f : Addr} {cd : Value} {m : Str → Option Value} {o1 o2 o3 o4 o5 o6 o7 o8 : Obj} {tl : List Stmt}
   {oc : Value} {od : Option Addr} {osl : Array (Option Value)} {name qual : Str} {params : Arguments} {body : List Stmt} {scope : Scope} {dV kV doc pm cdv ct : Value} {an : Option Addr} {n st : Nat} {t1 t2 : Tok}
   (hb : (hd.heap_39 w.params).lookup 105 = some ⟨oc, od, .func (fnOf name qual params body scope dV kV doc pm an cdv ct), osl⟩) (ht : tl = body.drop 3)
   (hpass : PassesOwn (model prog w) (callerA.deeper (envOfC qual scope L f cd)) (envOfC qual scope L f cd) E)
   (B : Below callerA h₀ [] h₀) (X : Frag.In (hd.heap_39 w.params) h₀) (Tt : Top p loose mean mg mb h₀) (F : Fr h₀ L s.heap m)
   (N : News h₀ L s.heap [(L + 1 + 1 + 1 + 1 + 1 + 1 + 1 + 1, o8), (L + 1 + 1 + 1 + 1 + 1 + 1 + 1, o7), (L + 1 + 1 + 1 + 1 + 1 + 1, o6), (L + 1 + 1 + 1 + 1 + 1, o5), (L + 1 + 1 + 1 + 1, o4), (L + 1 + 1 + 1, o3), (L + 1 + 1, o2), (L + 1, o1)])
   (d1 : o1.data = .cell (some (.int n t1))) (d2 : o2.data = .cell (some (.int st t2))) (d3 : o3.data = .cell none) (d4 : o4.data = .cell none) (d5 : o5.data = .cell none) (d6 : o6.data = .cell none) (d7 : o7.data = .cell none) (d8 : o8.data = .cell none)
   (hn : n ≠ 0 ∧ (digs n).length ≤ 8) (hst : isStep st)
   (h : ∀ h' tk' m', Fr h₀ L h' m' → Q (.ret (.bool true)) { s with heap := h', toks := tk' }) :
   wpAny (model prog w) (callerA.deeper (envOfC qual scope L f cd)) (execs tl (envOfC qual scope L f cd)) Q E s := by
  revert hpass ht
  refine' lkSubst hb ?k ?_
  case k => k_is
  rintro rfl rfl rfl rfl rfl hpass
  dsimp only [List.drop]
  have hnn : (n : Int).natAbs = n ∧ (digs n).length ≤ 1000 := ⟨Int.natAbs_natCast _, by omega⟩
  have hq8 : (digs (n / 16)).length ≤ 8 := by
    have := digs_pos hn.1
    have h2 := hn.2
    rw [this, List.length_append] at h2
    omega
  have hcl : (46 :: host2 (n / 16)).length ≤ 1000000 := by rw [List.length_cons, host2_len]; omega
  w_on
  w_strict ((try k_fold); (repeat' (first | (k_unfold; (try dsimp only)) | walk1 | (dsimp only; walk1) | (leave1; (try dsimp only)))))
  rename Fr _ _ _ _ => F1
  rename News _ _ _ _ => N1
  refine min_two_N (h₀ := h₀) (L := L) ?hh F1 N1 ?_
  case hh => rfl
  intro h1 tk1 F2 N2
  clear F1 N1
  obtain ⟨b, hbn, hb1, hb2⟩ : ∃ b : Nat, (if (n : Int) + 1 < (st : Int) then (n : Int) + 1 else (st : Int)) = ((1 + b : Nat) : Int) ∧ 1 ≤ b ∧ (b + 1 ≤ st ∧ b ≤ n ∧ (∀ s, 1 ≤ s → s < st → s ≤ n → s ≤ b)) := by
    have hst2 : 2 ≤ st := by rcases hst with rfl | rfl | rfl | rfl <;> decide
    have hn0 := hn.1
    by_cases hlt : (n : Int) + 1 < (st : Int)
    · rw [if_pos hlt]; exact ⟨n, by omega, by omega, by omega, by omega, fun s _ _ _ => by omega⟩
    · rw [if_neg hlt]; exact ⟨st - 1, by omega, by omega, by omega, by omega, fun s _ _ _ => by omega⟩
  rw [hbn]
  w_strict (repeat' (first | (k_unfold; (try dsimp only)) | walk1 | (dsimp only; walk1) | (leave1; (try dsimp only))))
  rename IsRange _ _ _ _ _ _ _ _ => hR
  rename Fr _ _ _ _ => F1
  rename News _ _ _ _ => N1
  have hst2 : st ≤ 16 := by rcases hst with rfl | rfl | rfl | rfl <;> decide
  have hRu := rangeUp (a := 1) (b := ((1 + b : Nat) : Int)) (n := b) (by decide) (by omega) (by omega)
  refine kll_range rfl F1 N1 hR hRu.1 hRu.2 (by omega) ?_
  intro D1 us1 c1 h2 tk2 F2 N2 lt2 hI2
  rw [rangeKs_eq] at hI2
  clear F1 N1 hR hRu
  k_lt lt2
  w_strict (repeat' (first | (k_unfold; (try dsimp only)) | walk1 | (dsimp only; walk1) | (leave1; (try dsimp only))))
  show wpAny _ _ _ _ _ _
  refine' compE (cl := [(Str.ofString "number", L + 1)]) ?q1 ?q2 ?q3 ?q4 ?q5 ?q6 ?_
  case q1 => with_unfolding_all rfl
  case q2 => decide
  case q3 => exact rfl
  case q4 => decide
  case q5 => exact rfl
  case q6 => intro _; exact rfl
  w_strict (repeat' (first | (k_unfold; (try dsimp only)) | walk1 | (dsimp only; walk1) | (leave1; (try dsimp only))))
  rename Fr _ _ _ _ => F3
  rename News _ _ _ _ => N3
  have hD1 := isl (N3 _ (.head _)).1
  refine compIt_src (srcInts rfl hD1 hI2) F3 N3 (fits6 (by simp; omega)) (fun a _ b _ v => IsI.inj) (fun _ => true) (fun a y => IsT (host2 (n - a.toNat)) y) ⟨fun _ _ _ _ _ _ _ _ _ _ _ _ _ => tests_nil rfl, ?_⟩ ?_
  · rintro C a v s₃ m₃ E' ha ⟨ta, rfl⟩ _ hm' F₁ N₁ F₃ N₃
    obtain ⟨j, hj, rfl⟩ := List.mem_map.mp ha
    rw [List.mem_range] at hj
    have hx : ((1 + (j : Int)) - (n : Int)).natAbs = n - (1 + (j : Int)).toNat ∧ (digs (n - (1 + (j : Int)).toNat)).length ≤ 1000 :=
      ⟨by omega, Nat.le_trans (digs_len (Nat.lt_of_le_of_lt (Nat.sub_le _ _) (lt_digs2 n))) (by omega)⟩
    w_strict (repeat' (first | (k_unfold; (try dsimp only)) | walk1 | (dsimp only; walk1) | (leave1; (try dsimp only))))
    · exact ⟨_, rfl⟩
    · exact keeps_of (by assumption)
  intro D4 c4 h4 tk4 ys4 F4 N4 off4 hP4
  rw [List.filter_eq_self.mpr (fun _ _ => rfl)] at hP4
  have hys4 := TxtsAre.ofPaired hP4
  clear hP4 hD1 F3 N3
  w_strict (repeat' (first | (k_unfold; (try dsimp only)) | walk1 | (dsimp only; walk1) | (leave1; (try dsimp only))))
  rename Fr _ _ _ _ => F5
  rename News _ _ _ _ => N5
  refine r_addTO F5 N5 (.tail _ (.head _)) (.head _) (ks := [host2 (n / 16)]) hys4 ⟨⟨_, rfl⟩, trivial⟩ (by simp; omega) ?_
  intro D6 h6 F6 N6 lt6 hT6
  rw [opts_map] at hT6
  have hopt := opts_le (n := n) (b := b)
  have hol : (opts n b).length = b + 1 := by simp [opts]
  generalize hoe : opts n b = os at *
  have hasc6 : ∀ m ∈ os, okT (host2 m) ∧ (host2 m).length ≤ 1000000 := fun m hm => ⟨host2_okT m, host2_small (Nat.le_trans (digs_len (Nat.lt_of_le_of_lt (hopt m hm) (lt_digs2 n))) (by omega))⟩
  have N7 := newsDrop2 N6
  k_lt lt6
  clear N6
  clear F5 N5 hys4
  w_strict (repeat' (first | (k_unfold; (try dsimp only)) | walk1 | (dsimp only; walk1) | (leave1; (try dsimp only))))
  show wpAny _ _ _ _ _ _
  refine' compE (cl := [(Str.ofString "up", L + 1 + 1 + 1)]) ?q1 ?q2 ?q3 ?q4 ?q5 ?q6 ?_
  case q1 => with_unfolding_all rfl
  case q2 => decide
  case q3 => exact rfl
  case q4 => decide
  case q5 => exact rfl
  case q6 => intro _; exact rfl
  w_strict (repeat' (first | (k_unfold; (try dsimp only)) | walk1 | (dsimp only; walk1) | (leave1; (try dsimp only))))
  rename Fr _ _ _ _ => F8
  rename News _ _ _ _ => N8
  have hUp : okT (46 :: host2 (n / 16)) ∧ (46 :: host2 (n / 16)).length ≤ 1000000 := ⟨by
    intro c hc
    rcases List.mem_cons.mp hc with rfl | hc
    · decide
    · exact host2_okT _ c hc, hcl⟩
  have hD6 := (N8 _ (.head _)).1
  refine compIt_src (srcTxts rfl hD6 hT6) F8 N8 (fits6 (by rw [List.length_map]; omega)) (fun a _ b _ v => IsT.inj) (fun _ => true) (fun l v => v = Value.bool (udmL l (46 :: host2 (n / 16)))) ⟨fun _ _ _ _ _ _ _ _ _ _ _ _ _ => tests_nil rfl, ?_⟩ ?_
  · rintro C a v s₃ m₃ E' ha ⟨ta, rfl⟩ _ hm' F₁ N₁ F₃ N₃
    obtain ⟨k, hk, rfl⟩ := List.mem_map.mp ha
    have hok := hasc6 k hk
    have hu : udmL (host2 k) (46 :: host2 (n / 16)) = udmL (host2 k) (46 :: host2 (n / 16)) := rfl
    w_strict (repeat' (first | (k_unfold; (try dsimp only)) | walk1 | (dsimp only; walk1) | (leave1; (try dsimp only))))
    · exact keeps_of (by assumption)
  intro D9 c9 h9 tk9 ys9 F9 N9 off9 hP9
  rw [List.filter_eq_self.mpr (fun _ _ => rfl)] at hP9
  have hys9 := paired_eq hP9
  obtain rfl : ys9 = (os.map fun k => under k (n / 16)).map Value.bool := by
    rw [hys9, List.map_map, List.map_map]
    exact List.map_congr_left fun k _ => congrArg Value.bool (udm_under k (n / 16))
  clear hys9 hP9 hD6 F8 N8
  replace off9 := allNe_of off9
  simp only [AllNe, and_true] at off9
  w_strict (repeat' (first | (k_unfold; (try dsimp only)) | walk1 | (dsimp only; walk1) | (leave1; (try dsimp only))))
  show wpAny _ _ _ _ _ _
  refine' compE (cl := [(Str.ofString "number", L + 1)]) ?q1 ?q2 ?q3 ?q4 ?q5 ?q6 ?_
  case q1 => with_unfolding_all rfl
  case q2 => decide
  case q3 => exact rfl
  case q4 => decide
  case q5 => exact rfl
  case q6 => intro _; exact rfl
  w_strict (repeat' (first | (k_unfold; (try dsimp only)) | walk1 | (dsimp only; walk1) | (leave1; (try dsimp only))))
  rename Fr _ _ _ _ => F8
  rename News _ _ _ _ => N8
  have hD1 := isl (N8 _ (.tail _ (.tail _ (.head _)))).1
  refine compIt_src (srcInts rfl hD1 hI2) F8 N8 (fits6 (by simp; omega)) (fun a _ b _ v => IsI.inj) (fun _ => true) (fun a y => y = Value.bool (decide (a.toNat ≤ n % 16) && decide (a.toNat < n))) ⟨fun _ _ _ _ _ _ _ _ _ _ _ _ _ => tests_nil rfl, ?_⟩ ?_
  · rintro C a v s₃ m₃ E' ha ⟨ta, rfl⟩ _ hm' F₁ N₁ F₃ N₃
    obtain ⟨j, hj, rfl⟩ := List.mem_map.mp ha
    rw [List.mem_range] at hj
    w_strict (repeat' (first | (k_unfold; (try dsimp only)) | walk1 | (dsimp only; walk1) | (leave1; (try dsimp only))))
    all_goals first
    | exact keeps_of (fun _ _ e => e)
    | exact due_yes2 (by assumption)
    | exact due_no2 (by assumption)
  intro D10 c10 h10 tk10 ys10 F10 N10 off10 hP10
  rw [List.filter_eq_self.mpr (fun _ _ => rfl)] at hP10
  have hys10 := paired_eq hP10
  clear hP10 F8 N8 hD1
  w_strict (repeat' (first | (k_unfold; (try dsimp only)) | walk1 | (dsimp only; walk1) | (leave1; (try dsimp only))))
  rename Fr _ _ _ _ => F11
  rename News _ _ _ _ => N11
  refine r_addO F11 N11 (.tail _ (.head _)) (.head _) (by rw [hys10]; simp; omega) ?_
  intro D12 h12 F12 N12 lt12
  rw [hys10, dues_eq (by omega) hb2.2.1, hoe] at N12
  have hD9 := (N12 _ (.tail _ (.tail _ (.tail _ (.head _))))).1
  have hD12 := (N12 _ (.head _)).1
  have N13 := newsTail (newsTail (newsTail N12))
  clear F11 N11 lt12 hys10
  w_strict (repeat' (first | (k_unfold; (try dsimp only)) | walk1 | (dsimp only; walk1) | (leave1; (try dsimp only))))
  show wpAny _ _ _ _ _ _
  refine' like_at (bs := os.map fun k => under k (n / 16)) (ambOf ?B ?F ?X ?T ?hA ?hf ?hk) ?d ?u ?x hD9 hD12 ?_
  case B => exact B
  case hA => exact rfl
  case hf => exact rfl
  case hk => exact rfl
  case F => exact F12
  case X => exact X
  case T => exact Tt
  case d => decide
  case u => decide
  case x => (rw [List.length_map]; omega)
  intro h14 tk14 st14
  have F14 := frStays F12 st14
  have N14 := newsStays N13 st14
  clear F12 N12 N13 hD9 hD12 st14
  w_strict (repeat' (first | (k_unfold; (try dsimp only)) | walk1 | (dsimp only; walk1) | (leave1; (try dsimp only))))
  have hBare : okT (host2 (n / 16)) ∧ (host2 (n / 16)).length ≤ 1000000 := ⟨host2_okT _, host2_small (by omega)⟩
  have hLow := low_ok2 hBare
  show wpAny _ _ _ _ _ _
  refine' compE (cl := [(Str.ofString "bare", L + 1 + 1 + 1 + 1)]) ?q1 ?q2 ?q3 ?q4 ?q5 ?q6 ?_
  case q1 => with_unfolding_all rfl
  case q2 => decide
  case q3 => exact rfl
  case q4 => decide
  case q5 => exact rfl
  case q6 => intro _; exact rfl
  w_strict (repeat' (first | (k_unfold; (try dsimp only)) | walk1 | (dsimp only; walk1) | (leave1; (try dsimp only))))
  rename Fr _ _ _ _ => F8
  rename News _ _ _ _ => N8
  have hD6 := (N8 _ (.tail _ (.head _))).1
  refine compIt_src (srcTxts rfl hD6 hT6) F8 N8 (fits6 (by rw [List.length_map]; omega)) (fun a _ b _ v => IsT.inj) (fun _ => true) (fun l v => v = Value.bool (udmL l ((host2 (n / 16)).map lo1))) ⟨fun _ _ _ _ _ _ _ _ _ _ _ _ _ => tests_nil rfl, ?_⟩ ?_
  · rintro C a v s₃ m₃ E' ha ⟨ta, rfl⟩ _ hm' F₁ N₁ F₃ N₃
    obtain ⟨k, hk, rfl⟩ := List.mem_map.mp ha
    have hok := hasc6 k hk
    have hu : udmL (host2 k) ((host2 (n / 16)).map lo1) = udmL (host2 k) ((host2 (n / 16)).map lo1) := rfl
    w_strict (repeat' (first | (k_unfold; (try dsimp only)) | walk1 | (dsimp only; walk1) | (leave1; (try dsimp only))))
    · exact keeps_of (by assumption)
  intro D15 c15 h15 tk15 ys15 F15 N15 off15 hP15
  rw [List.filter_eq_self.mpr (fun _ _ => rfl)] at hP15
  have hys15 := paired_eq hP15
  obtain rfl : ys15 = (os.map fun k => decide (k = n / 16)).map Value.bool := by
    rw [hys15, List.map_map, List.map_map]
    exact List.map_congr_left fun k _ => congrArg Value.bool (udm_eq2 k (n / 16))
  clear hys15 hP15 hD6 F8 N8 off15
  w_strict (repeat' (first | (k_unfold; (try dsimp only)) | walk1 | (dsimp only; walk1) | (leave1; (try dsimp only))))
  show wpAny _ _ _ _ _ _
  refine' compE (cl := [(Str.ofString "bare", L + 1 + 1 + 1 + 1)]) ?q1 ?q2 ?q3 ?q4 ?q5 ?q6 ?_
  case q1 => with_unfolding_all rfl
  case q2 => decide
  case q3 => exact rfl
  case q4 => decide
  case q5 => exact rfl
  case q6 => intro _; exact rfl
  w_strict (repeat' (first | (k_unfold; (try dsimp only)) | walk1 | (dsimp only; walk1) | (leave1; (try dsimp only))))
  rename Fr _ _ _ _ => F8
  rename News _ _ _ _ => N8
  have hD6 := (N8 _ (.tail _ (.tail _ (.head _)))).1
  refine compIt_src (srcTxts rfl hD6 hT6) F8 N8 (fits6 (by rw [List.length_map]; omega)) (fun a _ b _ v => IsT.inj) (fun _ => true) (fun l v => v = Value.bool (decide (l = host2 (n / 16)))) ⟨fun _ _ _ _ _ _ _ _ _ _ _ _ _ => tests_nil rfl, ?_⟩ ?_
  · rintro C a v s₃ m₃ E' ha ⟨ta, rfl⟩ _ hm' F₁ N₁ F₃ N₃
    w_strict (repeat' (first | (k_unfold; (try dsimp only)) | walk1 | (dsimp only; walk1) | (leave1; (try dsimp only))))
    · exact keeps_of fun _ _ e => e
  intro D16 c16 h16 tk16 ys16 F16 N16 off16 hP16
  rw [List.filter_eq_self.mpr (fun _ _ => rfl)] at hP16
  have hys16 := paired_eq hP16
  obtain rfl : ys16 = (os.map fun k => decide (k = n / 16)).map Value.bool := by
    rw [hys16, List.map_map, List.map_map]
    exact List.map_congr_left fun k _ => congrArg Value.bool (host2_eq k (n / 16))
  clear hys16 hP16 hD6 F8 N8 off16
  have hD15 := (N16 _ (.tail _ (.head _))).1
  have hD16 := (N16 _ (.head _)).1
  have N17 := newsTail (newsTail N16)
  w_strict (repeat' (first | (k_unfold; (try dsimp only)) | walk1 | (dsimp only; walk1) | (leave1; (try dsimp only))))
  show wpAny _ _ _ _ _ _
  refine' like_at (bs := os.map fun k => decide (k = n / 16)) (ambOf ?B ?F ?X ?T ?hA ?hf ?hk) ?d ?u ?x hD15 hD16 ?_
  case B => exact B
  case hA => exact rfl
  case hf => exact rfl
  case hk => exact rfl
  case F => exact F16
  case X => exact X
  case T => exact Tt
  case d => decide
  case u => decide
  case x => (rw [List.length_map]; omega)
  intro h18 tk18 st18
  have F18 := frStays F16 st18
  have N18 := newsStays N17 st18
  clear F16 N16 N17 hD15 hD16 st18
  have hu1 := udm_up2 (n / 16)
  have hu2 := udm_bare2 (n / 16)
  w_strict (repeat' (first | (k_unfold; (try dsimp only)) | walk1 | (dsimp only; walk1) | (leave1; (try dsimp only))))
  rename Fr _ _ _ _ => F18
  rename News _ _ _ _ => N18
  show wpAny _ _ _ _ _ _
  refine' lost_at (ambOf ?B ?F ?X ?T ?hA ?hf ?hk) ?d hst hn.2 ?_
  case B => exact B
  case hA => exact rfl
  case hf => exact rfl
  case hk => exact rfl
  case F => exact F18
  case X => exact X
  case T => exact Tt
  case d => decide
  intro h19 D19 tk19 st19 fr19 go19
  have F19 := frStays F18 st19
  have N19 := newsOf F18 N18 st19 fr19 go19
  have off19 := allNe_of (offOf N18 fr19)
  simp only [AllNe, and_true] at off19
  clear F18 N18 st19 go19 fr19
  w_strict (repeat' (first | (k_unfold; (try dsimp only)) | walk1 | (dsimp only; walk1) | (leave1; (try dsimp only))))
  show wpAny _ _ _ _ _ _
  refine' compN (cl := [(Str.ofString "step", L + 1 + 1)]) ?q1 ?q2 ?q3 ?q4 ?_
  case q1 => with_unfolding_all rfl
  case q2 => exact rfl
  case q3 => decide
  case q4 => intro _; exact rfl
  w_strict (repeat' (first | (k_unfold; (try dsimp only)) | walk1 | (dsimp only; walk1) | (leave1; (try dsimp only))))
  rename Fr _ _ _ _ => F20
  rename News _ _ _ _ => N20
  have hD6 := (N20 _ (.tail _ (.tail _ (.head _)))).1
  refine refs_comp (fun i => { cls := .type "list", data := .seq ([lost1 st (os.getD i 0), lost2 st (os.getD i 0)].map Value.bool).toArray 0 }) rfl F20 N20 (isl hD6) (by rw [hT6.len, List.length_map]; exact fits6 (by omega)) (by decide) rfl rfl ?_ ?_
  · intro C i v s₃ m₃ E' hv hm F₁ N₁ F₃ N₃
    obtain ⟨l, hl, tv, rfl⟩ := hT6.at i v hv
    rw [List.getElem?_map] at hl
    obtain ⟨k, hk, rfl⟩ : ∃ k, os[i]? = some k ∧ host2 k = l := by
      cases ho : os[i]? with
      | none => rw [ho] at hl; cases hl
      | some k => rw [ho] at hl; exact ⟨k, rfl, Option.some.inj hl⟩
    have hkn : (digs k).length ≤ 8 := Nat.le_trans (digs_len (Nat.lt_of_le_of_lt (hopt k (List.mem_of_getElem? hk)) (lt_digs2 n))) hn.2
    have hkd : os.getD i 0 = k := by simp [List.getD, hk]
    w_strict (repeat' (first | (k_unfold; (try dsimp only)) | walk1 | (dsimp only; walk1) | (leave1; (try dsimp only))))
    show wpAny _ _ _ _ _ _
    refine' lost_at (ambOf ?B ?F ?X ?T ?hA ?hf ?hk) ?d hst hkn ?_
    case B => exact B
    case hA => exact rfl
    case hf => exact rfl
    case hk => exact rfl
    case F => exact F₁
    case X => exact X
    case T => exact Tt
    case d => decide
    intro h21 D21 tk21 st21 fr21 go21
    rw [← hkd] at go21
    exact ⟨D21, h21, tk21, rfl, rfl, st21, fr21, go21⟩
  intro D22 ds c22 h22 tk22 hds F22 N22 off22 offd
  simp only [List.cons_append, List.nil_append] at N22
  have hOB1 : ∀ j d, ds[j]? = some d → (d, ({ cls := .type "list", data := .seq ([lost1 st (os.getD j 0), lost2 st (os.getD j 0)].map Value.bool).toArray 0 } : Obj)) ∈ objsOf (fun i => { cls := .type "list", data := .seq ([lost1 st (os.getD i 0), lost2 st (os.getD i 0)].map Value.bool).toArray 0 }) 0 ds := fun j d e => by
    have := objsOf_at (O := fun i => { cls := .type "list", data := .seq ([lost1 st (os.getD i 0), lost2 st (os.getD i 0)].map Value.bool).toArray 0 }) (k := 0) e
    simpa using this
  have hOBc : ∀ c o, (c, o) ∈ _ → ∀ p ∈ objsOf (fun i => { cls := .type "list", data := .seq ([lost1 st (os.getD i 0), lost2 st (os.getD i 0)].map Value.bool).toArray 0 }) 0 ds, p.1 ≠ c := fun c o hc p hp e => by
    obtain ⟨j, e1, _⟩ := objsOf_mem hp
    rw [e] at e1
    exact (off22 (c, o) hc).2 (List.mem_of_getElem? e1)
  have hC7 := hOBc (L + 1 + 1 + 1 + 1 + 1 + 1 + 1) _ (by k_mem)
  have hC8 := hOBc (L + 1 + 1 + 1 + 1 + 1 + 1 + 1 + 1) _ (by k_mem)
  have offA := allNe_of fun q hq => (off22 q hq).1
  simp only [AllNe, and_true] at offA
  generalize objsOf _ 0 ds = OB at N22 hOB1 hOBc hC7 hC8
  clear off22 offd
  w_strict (repeat' (first | (k_unfold; (try dsimp only)) | walk1 | (dsimp only; walk1) | (leave1; (try dsimp only))))
  rename Fr _ _ _ _ => F23
  rename News _ _ _ _ => N23
  have N24 := newsFive N23
  show wpAny _ _ _ _ _ _
  have hgo := game_of hst (told1 hst hn.1) hb2
  have hgo2 := game_of hst (told2 hst hn.1) hb2
  rw [hoe] at hgo hgo2
  refine' law_play (q := n / 16) (os := os) (P1 := lost1 st) (P2 := lost2 st) (b1 := lost1 st n) (b2 := lost2 st n) ?hb ?ht ?hp B X Tt F23 N24 ?d4 ?d5 ?d6 ?d7 ?d8 ?eh hT6 ?hds ?hol hOB1 hC8 ?n1 ?n2 ?n3 ?n4 hgo hgo2 ?_
  case hb => k_is
  case ht => rfl
  case hp => assumption
  case d4 => assumption
  case d5 => assumption
  case d6 => assumption
  case d7 => assumption
  case d8 => assumption
  case eh => rfl
  case hds => rw [hds, hT6.len, List.length_map]
  case hol => omega
  case n1 => omega
  case n2 => omega
  case n3 => omega
  case n4 => omega
  intro h' tk' m' FZ
  exact h _ _ _ FZ
end Mine

end PartH8
section PartH9
open PySem PySem.W PySem.Calls PyProof.Rows
set_option maxRecDepth 100000
set_option maxHeartbeats 8000000
set_option pp.deepTerms false
set_option pp.deepTerms.threshold 8
namespace Mine
local macro_rules | `(tactic| walk_at "zz none") => `(tactic| fail "none")
local macro_rules | `(tactic| walk_at "zz none") => `(tactic| fail "none")
local macro_rules | `(tactic| walk_at "zz none") => `(tactic| fail "none")
local macro_rules | `(tactic| walk_at "zz none") => `(tactic| fail "none")
local macro_rules | `(tactic| walk_at "zz none") => `(tactic| fail "none")
local macro_rules | `(tactic| walk_at "zz none") => `(tactic| fail "none")
local macro_rules | `(tactic| walk_at "zz none") => `(tactic| fail "none")
local macro_rules | `(tactic| walk_at "zz none") => `(tactic| fail "none")
local macro_rules | `(tactic| walk_at "zz none") => `(tactic| fail "none")
local macro_rules | `(tactic| walk_at "zz none") => `(tactic| fail "none")
local macro_rules | `(tactic| walk_at "zz none") => `(tactic| fail "none")
local macro_rules | `(tactic| walk_at "zz none") => `(tactic| fail "none")
local macro_rules | `(tactic| walk_at "zz none") => `(tactic| fail "none")
local macro_rules | `(tactic| walk_at "zz none") => `(tactic| fail "none")
local macro_rules | `(tactic| walk_at "zz none") => `(tactic| fail "none")
local macro_rules | `(tactic| walk_at "zz none") => `(tactic| fail "none")
local macro_rules | `(tactic| walk_at "zz none") => `(tactic| fail "none")
local macro_rules | `(tactic| walk_at "zz none") => `(tactic| fail "none")
local macro_rules | `(tactic| walk_at "zz none") => `(tactic| fail "none")
local macro_rules | `(tactic| walk_at "zz none") => `(tactic| fail "none")
local macro_rules | `(tactic| walk_at "zz none") => `(tactic| fail "none")
local macro_rules | `(tactic| walk_at "zz none") => `(tactic| fail "none")
local macro_rules | `(tactic| walk_at "zz none") => `(tactic| fail "none")
local macro_rules | `(tactic| walk_at "zz none") => `(tactic| fail "none")
local macro_rules | `(tactic| walk_at "zz none") => `(tactic| fail "none")
local macro_rules | `(tactic| walk_at "zz none") => `(tactic| fail "none")
local macro_rules | `(tactic| walk_at "zz none") => `(tactic| fail "none")
local macro_rules | `(tactic| walk_at "zz none") => `(tactic| fail "none")
local macro_rules | `(tactic| walk_at "zz none") => `(tactic| fail "none")
local macro_rules | `(tactic| walk_at "zz none") => `(tactic| fail "none")
local macro_rules | `(tactic| walk_at "zz none") => `(tactic| fail "none")
local macro_rules | `(tactic| walk_at "zz none") => `(tactic| fail "none")
local macro_rules | `(tactic| walk_at "zz none") => `(tactic| fail "none")
local macro_rules | `(tactic| walk_at "zz none") => `(tactic| fail "none")
local macro_rules | `(tactic| walk_at "zz none") => `(tactic| fail "none")
local macro_rules | `(tactic| walk_at "zz none") => `(tactic| fail "none")
local macro_rules | `(tactic| walk_at "zz none") => `(tactic| fail "none")
local macro_rules | `(tactic| walk_at "zz none") => `(tactic| fail "none")
local macro_rules | `(tactic| walk_at "zz none") => `(tactic| fail "none")
local macro_rules | `(tactic| walk_at "zz none") => `(tactic| fail "none")
local macro_rules | `(tactic| walk_at "zz none") => `(tactic| fail "none")
local macro_rules | `(tactic| walk_at "zz none") => `(tactic| fail "none")
local macro_rules | `(tactic| walk_at "zz none") => `(tactic| fail "none")
local macro_rules | `(tactic| walk_at "zz none") => `(tactic| fail "none")
local macro_rules | `(tactic| walk_at "zz none") => `(tactic| fail "none")
local macro_rules | `(tactic| walk_at "zz none") => `(tactic| fail "none")
local macro_rules | `(tactic| walk_at "zz none") => `(tactic| fail "none")
local macro_rules | `(tactic| walk_at "zz none") => `(tactic| fail "none")
local macro_rules | `(tactic| walk_at "zz none") => `(tactic| fail "none")
local macro_rules | `(tactic| walk_at "zz none") => `(tactic| fail "none")
local macro_rules | `(tactic| walk_at "zz none") => `(tactic| fail "none")
local macro_rules | `(tactic| walk_at "zz none") => `(tactic| fail "none")
local macro_rules | `(tactic| walk_at "zz none") => `(tactic| fail "none")
local macro_rules | `(tactic| walk_at "zz none") => `(tactic| fail "none")
local macro_rules | `(tactic| walk_at "zz none") => `(tactic| fail "none")
local macro_rules | `(tactic| walk_at "zz none") => `(tactic| fail "none")
local macro_rules | `(tactic| walk_at "zz none") => `(tactic| fail "none")
local macro_rules | `(tactic| walk_at "zz none") => `(tactic| fail "none")
local macro_rules | `(tactic| walk_at "zz none") => `(tactic| fail "none")
local macro_rules | `(tactic| walk_at "zz none") => `(tactic| fail "none")
local macro_rules | `(tactic| walk_at "zz none") => `(tactic| fail "none")
local macro_rules | `(tactic| walk_at "zz none") => `(tactic| fail "none")
local macro_rules | `(tactic| walk_at "zz none") => `(tactic| fail "none")
local macro_rules | `(tactic| walk_at "zz none") => `(tactic| fail "none")
local macro_rules | `(tactic| walk_at "zz none") => `(tactic| fail "none")
local macro_rules | `(tactic| walk_at "zz none") => `(tactic| fail "none")
local macro_rules | `(tactic| walk_at "zz none") => `(tactic| fail "none")
local macro_rules | `(tactic| walk_at "zz none") => `(tactic| fail "none")
local macro_rules | `(tactic| walk_at "zz none") => `(tactic| fail "none")
local macro_rules | `(tactic| walk_at "zz none") => `(tactic| fail "none")
local macro_rules | `(tactic| walk_at "zz none") => `(tactic| fail "none")
local macro_rules | `(tactic| walk_at "zz none") => `(tactic| fail "none")
local macro_rules | `(tactic| walk_at "zz none") => `(tactic| fail "none")
local macro_rules | `(tactic| walk_at "zz none") => `(tactic| fail "none")
local macro_rules | `(tactic| walk_at "zz none") => `(tactic| fail "none")
local macro_rules | `(tactic| walk_at "zz none") => `(tactic| fail "none")
local macro_rules | `(tactic| walk_at "zz none") => `(tactic| fail "none")
local macro_rules | `(tactic| walk_at "zz none") => `(tactic| fail "none")
local macro_rules | `(tactic| walk_at "zz none") => `(tactic| fail "none")
local macro_rules | `(tactic| walk_at "zz none") => `(tactic| fail "none")
local macro_rules | `(tactic| walk_at "zz none") => `(tactic| fail "none")
local macro_rules | `(tactic| walk_at "zz none") => `(tactic| fail "none")
local macro_rules | `(tactic| walk_at "zz none") => `(tactic| fail "none")
local macro_rules | `(tactic| walk_at "zz none") => `(tactic| fail "none")
local macro_rules | `(tactic| walk_at "zz none") => `(tactic| fail "none")
local macro_rules | `(tactic| walk_at "zz none") => `(tactic| fail "none")
local macro_rules | `(tactic| walk_at "zz none") => `(tactic| fail "none")
local macro_rules | `(tactic| walk_at "zz none") => `(tactic| fail "none")
local macro_rules | `(tactic| walk_at "zz none") => `(tactic| fail "none")
local macro_rules | `(tactic| walk_at "zz none") => `(tactic| fail "none")
local macro_rules | `(tactic| walk_at "zz none") => `(tactic| fail "none")
local macro_rules | `(tactic| walk_at "zz none") => `(tactic| fail "none")
local macro_rules | `(tactic| walk_at "zz none") => `(tactic| fail "none")
local macro_rules | `(tactic| walk_at "zz none") => `(tactic| fail "none")
local macro_rules | `(tactic| walk_at "zz none") => `(tactic| fail "none")
local macro_rules | `(tactic| walk_at "zz none") => `(tactic| fail "none")
local macro_rules | `(tactic| walk_at "zz none") => `(tactic| fail "none")
local macro_rules | `(tactic| walk_at "zz none") => `(tactic| fail "none")
local macro_rules | `(tactic| walk_at "zz none") => `(tactic| fail "none")
local macro_rules | `(tactic| walk_at "zz none") => `(tactic| fail "none")
local macro_rules | `(tactic| walk_at "zz none") => `(tactic| fail "none")
local macro_rules | `(tactic| walk_at "zz none") => `(tactic| fail "none")
local macro_rules | `(tactic| walk_at "zz none") => `(tactic| fail "none")
local macro_rules | `(tactic| walk_at "zz none") => `(tactic| fail "none")
local macro_rules | `(tactic| walk_at "zz none") => `(tactic| fail "none")
local macro_rules | `(tactic| walk_at "zz none") => `(tactic| fail "none")
local macro_rules | `(tactic| walk_at "zz none") => `(tactic| fail "none")
local macro_rules | `(tactic| walk_at "zz none") => `(tactic| fail "none")
local macro_rules | `(tactic| walk_at "zz none") => `(tactic| fail "none")
local macro_rules | `(tactic| walk_at "zz none") => `(tactic| fail "none")
local macro_rules | `(tactic| walk_at "zz none") => `(tactic| fail "none")
local macro_rules | `(tactic| walk_at "zz none") => `(tactic| fail "none")
local macro_rules | `(tactic| walk_at "zz none") => `(tactic| fail "none")
local macro_rules | `(tactic| walk_at "zz none") => `(tactic| fail "none")
local macro_rules | `(tactic| walk_at "zz none") => `(tactic| fail "none")
local macro_rules | `(tactic| walk_at "zz none") => `(tactic| fail "none")
local macro_rules | `(tactic| walk_at "zz none") => `(tactic| fail "none")
local macro_rules | `(tactic| walk_at "zz none") => `(tactic| fail "none")
local macro_rules | `(tactic| walk_at "zz none") => `(tactic| fail "none")
local macro_rules | `(tactic| walk_at "zz none") => `(tactic| fail "none")
local macro_rules | `(tactic| walk_at "zz none") => `(tactic| fail "none")
local macro_rules | `(tactic| walk_at "zz none") => `(tactic| fail "none")
local macro_rules | `(tactic| walk_at "zz none") => `(tactic| fail "none")
local macro_rules | `(tactic| walk_at "zz none") => `(tactic| fail "none")
local macro_rules | `(tactic| walk_at "zz none") => `(tactic| fail "none")
local macro_rules | `(tactic| walk_at "zz none") => `(tactic| fail "none")
local macro_rules | `(tactic| walk_at "zz none") => `(tactic| fail "none")
local macro_rules | `(tactic| walk_at "zz none") => `(tactic| fail "none")
local macro_rules | `(tactic| walk_at "zz none") => `(tactic| fail "none")
local macro_rules | `(tactic| walk_at "zz none") => `(tactic| fail "none")
local macro_rules | `(tactic| walk_at "zz none") => `(tactic| fail "none")
local macro_rules | `(tactic| walk_at "zz none") => `(tactic| fail "none")
local macro_rules | `(tactic| walk_at "zz none") => `(tactic| fail "none")
local macro_rules | `(tactic| walk_at "zz none") => `(tactic| fail "none")
local macro_rules | `(tactic| walk_at "zz none") => `(tactic| fail "none")
local macro_rules | `(tactic| walk_at "zz none") => `(tactic| fail "none")
local macro_rules | `(tactic| walk_at "zz none") => `(tactic| fail "none")
local macro_rules | `(tactic| walk_at "zz none") => `(tactic| fail "none")
local macro_rules | `(tactic| walk_at "zz none") => `(tactic| fail "none")
local macro_rules | `(tactic| walk_at "zz none") => `(tactic| fail "none")
local macro_rules | `(tactic| walk_at "zz none") => `(tactic| fail "none")
local macro_rules | `(tactic| walk_at "zz none") => `(tactic| fail "none")
local macro_rules | `(tactic| walk_at "zz none") => `(tactic| fail "none")
local macro_rules | `(tactic| walk_at "zz none") => `(tactic| fail "none")
local macro_rules | `(tactic| walk_at "zz none") => `(tactic| fail "none")
local macro_rules | `(tactic| walk_at "zz none") => `(tactic| fail "none")
local macro_rules | `(tactic| walk_at "zz none") => `(tactic| fail "none")
local macro_rules | `(tactic| walk_at "zz none") => `(tactic| fail "none")
local macro_rules | `(tactic| walk_at "zz none") => `(tactic| fail "none")
local macro_rules | `(tactic| walk_at "zz none") => `(tactic| fail "none")
local macro_rules | `(tactic| walk_at "zz none") => `(tactic| fail "none")
local macro_rules | `(tactic| walk_at "zz none") => `(tactic| fail "none")
local macro_rules | `(tactic| walk_at "zz none") => `(tactic| fail "none")
local macro_rules | `(tactic| walk_at "zz none") => `(tactic| fail "none")
local macro_rules | `(tactic| walk_at "zz none") => `(tactic| fail "none")
local macro_rules | `(tactic| walk_at "zz none") => `(tactic| fail "none")
local macro_rules | `(tactic| walk_at "zz none") => `(tactic| fail "none")
theorem fillh9 : PySem.Challenge.rw_rl0024_02.wellSaid = true ∧ hd.heap_39 = hd.heap_39 → True := by
  k_fill
  exact fun _ => trivial
local macro_rules | `(tactic| walk_at "eval Name") => `(tactic| (k_here; k_dflt (first
  | (refine' nmL ?k1 ?k2 ?_; (case k1 => k_asm); (case k2 => assumption); k_whole)
  | (refine' nmK ?k1 ?k2 ?k3 ?k4 ?_; (case k1 => k_asm); (case k2 => k_asm); (case k3 => k_asm); (case k4 => k_is); k_whole)
  | (refine' nmB ?k1 ?k2 ?k3 ?k4 ?k5 ?k6 ?_; (case k1 => k_asm); (case k2 => k_asm); (case k3 => k_asm); (case k4 => k_is); (case k5 => boot_by_name); (case k6 => decide); k_whole)
  | (refine' nmC ?k1 ?k2 ?k3 ?k4 ?_; (case k1 => k_asm); (case k2 => exact rfl); (case k3 => k_mem); (case k4 => assumption); k_whole)
  | (refine' ldQ ?k1 ?k2 ?_; (case k1 => k_asm); (case k2 => assumption); k_whole))))
local macro_rules | `(tactic| walk_at "exec While BoolOp cons nil") => `(tactic| (k_here; refine Stop.mk ?_))
local macro_rules | `(tactic| walk_at "eval ListComp") => `(tactic| (k_here; refine Stop.mk ?_))
local macro_rules | `(tactic| walk_at "exec Assign cons ListComp") => `(tactic| (k_here; (with_reducible show wpAny _ _ (exec (Stmt.Assign [Expr.Name (Str.ofString "led") _] _ _) _) _ _ _); refine Stop.mk ?_))
local macro_rules | `(tactic| walk_at "compareOp NotEq ref ref") => `(tactic| (k_here; refine Stop.mk ?_))
local macro_rules | `(tactic| walk_at "compareOp Eq ref ref") => `(tactic| (k_here; refine Stop.mk ?_))
local macro_rules | `(tactic| walk_at "call type:enumerate") => `(tactic| (k_here; refine Stop.mk ?_))
local macro_rules | `(tactic| walk_at "call builtin:sum") => `(tactic| (k_here; refine Stop.mk ?_))
local macro_rules | `(tactic| walk_at "call builtin:str.split") => `(tactic| (k_here; refine Stop.mk ?_))
local macro_rules | `(tactic| walk_at "call builtin:list.append") => `(tactic| (k_here; refine Stop.mk ?_))
local macro_rules | `(tactic| walk_at "eval Constant str") => `(tactic| ((first | with_reducible refine r_const sDot ?_); intro _ _; (try dsimp only)))
local macro_rules | `(tactic| walk_at "call ref") => `(tactic| (k_here; (with_reducible show wpAny _ _ (call (Value.ref 64) [Value.str (S (host2 _)) _]) _ _ _); k_dflt (refine' reach2_at (ambOf ?B ?F ?X ?T ?hA ?hf ?hk) ?d ?x ?_; (case B => k_asm); (case hA => exact rfl); (case hf => exact rfl); (case hk => exact rfl); (case F => k_asm); (case X => k_asm); (case T => k_asm); (case d => first | decide | ((try dsimp only); omega) | ktr_room); (case x => assumption); intro h' t' tk' st'; (have F' := frStays (by k_asm) st'); (have N' := newsStays (by k_asm) st'); (try dsimp only); (try k_sweep))))
local macro_rules | `(tactic| walk_at "call ref") => `(tactic| (k_here; (with_reducible show wpAny _ _ (call (Value.ref 57) _) _ _ _); k_dflt (refine' udmE (ambOf ?B ?F ?X ?T ?hA ?hf ?hk) ?d ?x ?y ?e ?_; (case B => k_asm); (case hA => exact rfl); (case hf => exact rfl); (case hk => exact rfl); (case F => k_asm); (case X => k_asm); (case T => k_asm); (case d => first | decide | ((try dsimp only); omega) | ktr_room); (case x => assumption); (case y => assumption); (case e => assumption); intro h' tk' st'; (have F' := frStays (by k_asm) st'); (have N' := newsStays (by k_asm) st'); (try dsimp only); (try k_sweep))))
local macro_rules | `(tactic| walk_at "call ref") => `(tactic| (k_here; (with_reducible show wpAny _ _ (call (Value.ref 83) _) _ _ _); k_dflt (refine' letters_at (ambOf ?B ?F ?X ?T ?hA ?hf ?hk) ?d ?x ?_; (case B => k_asm); (case hA => exact rfl); (case hf => exact rfl); (case hk => exact rfl); (case F => k_asm); (case X => k_asm); (case T => k_asm); (case d => first | decide | ((try dsimp only); omega) | ktr_room); (case x => assumption); intro h' t' tk' st'; (have F' := frStays (by k_asm) st'); (have N' := newsStays (by k_asm) st'); (try dsimp only); (try k_sweep))))
local macro_rules | `(tactic| walk_at "call ref") => `(tactic| (k_here; (with_reducible show wpAny _ _ (call (Value.ref 76) _) _ _ _); k_dflt (refine' host2_to (ambOf ?B ?F ?X ?T ?hA ?hf ?hk) ?d ?x ?_; (case B => k_asm); (case hA => exact rfl); (case hf => exact rfl); (case hk => exact rfl); (case F => k_asm); (case X => k_asm); (case T => k_asm); (case d => first | decide | ((try dsimp only); omega) | ktr_room); (case x => assumption); intro h' t' tk' st'; (have F' := frStays (by k_asm) st'); (have N' := newsStays (by k_asm) st'); (try dsimp only); (try k_sweep))))
local macro_rules | `(tactic| walk_at "subscriptTail") => `(tactic| (k_here; (with_reducible show wpAny _ _ (subscriptTail _ (Expr.Slice _ _ _ _) (Value.str (S (_ :: _)) _) (Value.ref _)) _ _ _); k_dflt (refine cons_tail (by k_asm) (by k_asm) (by assumption) ?_); intro h' t' tk' F' N'; (try dsimp only); (try k_sweep)))
local macro_rules | `(tactic| walk_at "subscriptTail") => `(tactic| (k_here; (with_reducible show wpAny _ _ (subscriptTail _ (Expr.Slice _ _ _ _) (Value.ref _) (Value.ref _)) _ _ _); refine Stop.mk ?_))
local macro_rules | `(tactic| walk_at "compareOp NotEq str str") => `(tactic| (k_here; k_dflt (first | refine r_neT (by assumption) ?_ | refine r_neF rfl ?_); (try dsimp only)))
local macro_rules | `(tactic| walk_at "compareOp Eq str str") => `(tactic| (k_here; k_dflt (first | refine r_eF (by assumption) ?_ | refine r_eT rfl ?_ | refine r_eq ?_); (try dsimp only)))
local macro_rules | `(tactic| walk_at "call builtin:str.lower") => `(tactic| (k_here; (refine r_lower (okT.asc (And.left (by assumption))) (And.right (by assumption)) ?_; intro _ _; (try dsimp only))))
local macro_rules | `(tactic| walk_at "compareOp Eq int int") => `(tactic| (k_here; k_dflt (refine r_eIT rfl ?_); (try dsimp only)))
local macro_rules | `(tactic| walk_at "compareOp IsNot bool bool") => `(tactic| (k_here; refine r_isntF rfl ?_))
local macro_rules | `(tactic| walk_at "call builtin:ord") => `(tactic| (k_here; k_dflt (refine r_ord ?_); intro _ _; (try dsimp only)))
local macro_rules | `(tactic| walk_at "call builtin:len") => `(tactic| (k_here; (with_reducible show wpAny _ _ (call (Value.builtin "len") [Value.ref _]) _ _ _); k_dflt (refine' r_llen ?N ?m ?z ?_; (case N => k_asm); (case m => k_mem); (case z => omega); intro t' tk'; (try dsimp only))))
local macro_rules | `(tactic| walk_at "call builtin:len") => `(tactic| (k_here; (with_reducible show wpAny _ _ (call (Value.builtin "len") [Value.str (S _) _]) _ _ _); k_dflt (refine r_len (by assumption) ?_); intro _ _; (try dsimp only)))
local macro_rules | `(tactic| walk_at "binaryOp Pow int int") => `(tactic| (k_here; k_dflt (refine r_pow (by omega) (by omega) (by decide) ?_); intro _ _; (try dsimp only)))
local macro_rules | `(tactic| walk_at "binaryOp Mult int int") => `(tactic| (k_here; k_dflt (refine r_mul (by omega) ?_); intro _ _; (try dsimp only)))
local macro_rules | `(tactic| walk_at "binaryOp FloorDiv int int") => `(tactic| (k_here; k_dflt (refine r_fdiv (by assumption) (by assumption) ?_); intro _ _; (try dsimp only)))
local macro_rules | `(tactic| walk_at "binaryOp Add str str") => `(tactic| (k_here; k_dflt (refine r_add (by assumption) ?_); intro _ _; (try dsimp only)))
local macro_rules | `(tactic| walk_at "execs cons") => `(tactic| (k_here; (with_reducible show wpAny _ _ (execs (Stmt.For _ _ _ _ _ :: _) _) _ _ _); refine Stop.mk ?_))
local macro_rules | `(tactic| walk_at "binaryOp Add ref ref") => `(tactic| (k_here; refine Stop.mk ?_))
local macro_rules | `(tactic| walk_at "call type:list") => `(tactic| (k_here; refine Stop.mk ?_))
local macro_rules | `(tactic| walk_at "call builtin:min") => `(tactic| (k_here; refine Stop.mk ?_))
local macro_rules | `(tactic| walk_at "call ref") => `(tactic| (k_here; (with_reducible show wpAny _ _ (call (Value.ref 100) _) _ _ _); refine Stop.mk ?_))
local macro_rules | `(tactic| walk_at "call ref") => `(tactic| (k_here; (with_reducible show wpAny _ _ (call (Value.ref 95) _) _ _ _); refine Stop.mk ?_))
local macro_rules | `(tactic| walk_at "call ref") => `(tactic| (k_here; (with_reducible show wpAny _ _ (call (Value.ref 88) _) _ _ _); k_dflt (refine' named_to (ambOf ?B ?F ?X ?T ?hA ?hf ?hk) ?d ?u ?x ?_; (case B => k_asm); (case hA => exact rfl); (case hf => exact rfl); (case hk => exact rfl); (case F => k_asm); (case X => k_asm); (case T => k_asm); (case d => first | decide | ((try dsimp only); omega) | ktr_room); (case u => decide); (case x => assumption); intro h' tk' st'; (have F' := frStays (by k_asm) st'); (have N' := newsStays (by k_asm) st'); (try dsimp only); (try k_sweep))))
local macro_rules | `(tactic| walk_at "call ref") => `(tactic| (k_here; (with_reducible show wpAny _ _ (call (Value.ref 64) [Value.str (S (host2 _)) _]) _ _ _); k_dflt (refine' reach2_pos_at (ambOf ?B ?F ?X ?T ?hA ?hf ?hk) ?d ?x ?_; (case B => k_asm); (case hA => exact rfl); (case hf => exact rfl); (case hk => exact rfl); (case F => k_asm); (case X => k_asm); (case T => k_asm); (case d => first | decide | ((try dsimp only); omega) | ktr_room); (case x => assumption); intro h' t' tk' st'; (have F' := frStays (by k_asm) st'); (have N' := newsStays (by k_asm) st'); (try dsimp only); (try k_sweep))))

local macro_rules | `(tactic| k_all) => `(tactic| assumption)
local macro_rules | `(tactic| walk_at "eval IfExp") => `(tactic| (k_here; refine Stop.mk ?_))
local macro_rules | `(tactic| walk_at "execs cons") => `(tactic| (k_here; (with_reducible show wpAny _ _ (execs (Stmt.Assign [Expr.Name (Str.ofString "name") _] _ _ :: _) _) _ _ _); refine Stop.mk ?_))
local macro_rules | `(tactic| walk_at "subscriptTail Name Slice ref ref") => `(tactic| (k_here; refine Stop.mk ?_))
local macro_rules | `(tactic| walk_at "binaryOp Pow int int") => `(tactic| (k_here; (with_reducible show wpAny _ _ (binaryOp _ (Value.int 2 _) (Value.int _ _)) _ _ _); k_dflt (refine r_pow (by omega) (by omega) (by decide) ?_); intro _ _; (try dsimp only)))
theorem fm16 (a : Int) : 0 ≤ a.fmod 16 ∧ a.fmod 16 < 16 := ⟨Int.fmod_nonneg_of_pos a (by decide), Int.fmod_lt_of_pos a (by decide)⟩
theorem fm4 (a : Int) : 0 ≤ a.fmod 4 ∧ a.fmod 4 < 4 := ⟨Int.fmod_nonneg_of_pos a (by decide), Int.fmod_lt_of_pos a (by decide)⟩
theorem sum4 {vs : List Value} {ns : List Int} (_ : IntsAre vs ns) : 0 ≤ (ns.sum + 1).fmod 4 ∧ (ns.sum + 1).fmod 4 < 4 := fm4 _
theorem p16b : ∀ n : Nat, n ≤ 8 → (16 : Int) ^ n ≤ 16 ^ 8 := by decide
theorem step_is {a : Int} (h : 0 ≤ a ∧ a < 4) : ∃ st : Nat, (2 : Int) ^ (a + 1).toNat = (st : Int) ∧ isStep st := by
  rcases (show a = 0 ∨ a = 1 ∨ a = 2 ∨ a = 3 by omega) with rfl | rfl | rfl | rfl
  · exact ⟨2, by decide, .inl rfl⟩
  · exact ⟨4, by decide, .inr (.inl rfl)⟩
  · exact ⟨8, by decide, .inr (.inr (.inl rfl))⟩
  · exact ⟨16, by decide, .inr (.inr (.inr rfl))⟩
theorem final : PySem.Challenge.rw_rl0024_02.Holds := hd (by
  w_on
  w_strict (k_go0)
  rename IntsAre _ _ => hI
  rename Heap.IsList _ _ _ => hLs
  rename Frag.In _ _ => hX
  rename Fr _ _ _ _ => F9
  rename News _ _ _ _ => N9
  rename ¬ _ < _ => hlen63
  have hvl := hI.length
  have hvl63 : List.length _ ≤ 1000000 := Nat.le_trans (Nat.le_of_eq hvl) (by omega)
  w_strict ((try k_fold); (repeat' (first | (k_unfold; (try dsimp only)) | walk1 | (dsimp only; walk1) | (leave1; (try dsimp only)))))
  show wpAny _ _ _ _ _ _
  refine' compP (cl := []) ?c2 ?c3 ?c4 ?c5 ?_
  case c2 => with_unfolding_all rfl
  case c3 => exact rfl
  case c4 => decide
  case c5 => intro _; exact rfl
  w_strict (repeat' (first | (k_unfold; (try dsimp only)) | walk1 | (dsimp only; walk1) | (leave1; (try dsimp only))))
  rename Fr _ _ _ _ => F1
  rename News _ _ _ _ => N1
  refine r_lpickS (hLs.at fun o e => F1.keep _ o e) .none (.int _ _) .none (by decide) hvl63 ?_
  intro D' h' st1 fr1 ho1
  have F2 := frStays F1 st1
  have N2 := newsOf F1 N1 st1 fr1 ho1
  clear F1 N1
  w_strict (repeat' (first | (k_unfold; (try dsimp only)) | walk1 | (dsimp only; walk1) | (leave1; (try dsimp only))))
  have hpl := pick_upto hI 8
  have hpi := hI.pick none (some 8) none
  show wpAny _ _ _ _ _ _
  refine' enum_comp (fun i v z => ∃ d t, 0 ≤ d ∧ d < 16 ∧ z = .int (d * 16 ^ i) t) ?c1 F2 N2 (isl ho1) ?c3 ?c4 ?c5 ?c6 ?c7 ?c8 ?_ ?_
  case c1 => exact rfl
  case c3 => decide
  case c4 => exact fits6 (Nat.le_trans hpl (by decide))
  case c5 => decide
  case c6 => exact rfl
  case c7 => exact rfl
  case c8 => exact rfl
  · intro C i v t s₃ m₃ E' hv hma hmb F₁ N₁ F₃ N₃
    have hi8 : i < 8 := Nat.lt_of_lt_of_le (List.getElem?_eq_some_iff.mp hv).1 hpl
    obtain ⟨a, ta, rfl, _⟩ := ints_at hpi hv
    have b16 : 0 ≤ a.fmod 16 ∧ a.fmod 16 < 16 := fm16 a
    w_strict (repeat' (first | (k_unfold; (try dsimp only)) | walk1 | (dsimp only; walk1) | (leave1; (try dsimp only))))
    · exact b16.1
    · exact b16.2
    · exact keeps_of (fun _ _ e => e)
  · intro D c h' tk ys F₁ N₁ off hlen hG
    obtain ⟨ms, hms, hm0, hm1⟩ := digits_sum ys 0 fun i z hz => by
      have hi := (List.getElem?_eq_some_iff.mp hz).1
      rw [hlen] at hi
      obtain ⟨d, t, e0, e1, e2⟩ := hG i z _ hz (List.getElem?_eq_getElem hi)
      exact ⟨d, t, e0, e1, by rw [e2, Nat.zero_add]⟩
    have hp8 : (16 : Int) ^ (0 + ys.length) ≤ 16 ^ 8 := p16b _ (by rw [hlen, Nat.zero_add]; exact hpl)
    clear hG hlen hpl hpi ho1 fr1 st1 F2 N2
    have hDl := isl (N₁ _ (.head _)).1
    w_strict (repeat' (first | (k_unfold; (try dsimp only)) | walk1 | (dsimp only; walk1) | (leave1; (try dsimp only))))
    refine r_sumS rfl hDl hms ?_
    intro h2 tk2 t2 st2
    have F2 := frStays F₁ st2
    have N2 := newsTail (newsTail (newsStays N₁ st2))
    clear F₁ N₁ st2
    w_strict (repeat' (first | (k_unfold; (try dsimp only)) | walk1 | (dsimp only; walk1) | (leave1; (try dsimp only))))
    rename Fr _ _ _ _ => F3
    rename News _ _ _ _ => N3
    obtain ⟨n, hn, hn1, hn2⟩ : ∃ n : Nat, (if 0 < ms.sum then ms.sum else 20612) = (n : Int) ∧ n ≠ 0 ∧ n < 16 ^ 8 := by
      refine ⟨(if 0 < ms.sum then ms.sum else 20612).toNat, ?_, ?_, ?_⟩
      · split <;> omega
      · split <;> omega
      · rw [Nat.zero_add] at hm1 hp8
        split <;> omega
    clear hm1 hp8 hm0
    refine r_join1 (n : Int) (IfExp_ ?_) ?_
    · w_strict (repeat' (first | (k_unfold; (try dsimp only)) | walk1 | (dsimp only; walk1) | (leave1; (try dsimp only))))
      all_goals (refine isV ?_; rw [← hn])
      · rw [if_pos (by assumption)]
      · rw [if_neg (by assumption)]
    intro t6 tk6
    w_strict (repeat' (first | (k_unfold; (try dsimp only)) | walk1 | (dsimp only; walk1) | (leave1; (try dsimp only))))
    rename Fr _ _ _ _ => F4
    rename News _ _ _ _ => N4
    refine r_sumS rfl (hLs.at fun o e => F4.keep _ o e) hI ?_
    intro h5 tk5 t5 st5
    have F5 := frStays F4 st5
    have N5 := newsStays N4 st5
    clear F4 N4 st5
    have b4 := sum4 hI
    w_strict (repeat' (first | (k_unfold; (try dsimp only)) | walk1 | (dsimp only; walk1) | (leave1; (try dsimp only))))
    obtain ⟨st, hst1, hst⟩ := step_is b4
    rename Fr _ _ _ _ => F6
    rename News _ _ _ _ => N6
    rename _ = Data.cell (some (Value.int (2 ^ _) _)) => dSt
    rw [hst1] at dSt
    rename _ = Data.cell (some (Value.int (n : Int) _)) => dNum
    have hn8 : (digs n).length ≤ 8 := digs_len hn2
    show wpAny _ _ _ _ _ _
    refine' law_mid ?hb ?ht ?hp ?B ?X ?Tt F6 N6 dNum dSt ?d3 ?d4 ?d5 ?d6 ?d7 ?d8 ⟨hn1, hn8⟩ hst ?_
    case hb => k_is
    case ht => rfl
    case hp => passes_own
    case B => assumption
    case X => assumption
    case Tt => assumption
    case d3 => assumption
    case d4 => assumption
    case d5 => assumption
    case d6 => assumption
    case d7 => assumption
    case d8 => assumption
    intro h' tk' m' FZ
    show GoodW _ _ _ _ _ (Except.ok (Flow.ret (Value.bool true))) _
    w_strict (first | exact goodW_bool FZ (by assumption) (fun _ => rfl) (by rfl) | exact goodW_bool FZ (by assumption) (fun _ => rfl) (by decide +kernel) | (k_end; wrow_close)))
end Mine

end PartH9
theorem PySem.Challenge.cw_rl0024_02_holds : PySem.Challenge.rw_rl0024_02.Holds := by
  exact Mine.final
