import PyProof.Rows.All
import Wide.All
import OpenK.AllK
import Wide.FinOn
import PySem.Challenge.RW_pu0027_01
set_option Elab.async false
section
open PySem PySem.W PyProof.Rows
namespace Mine
set_option maxRecDepth 100000 in
set_option maxHeartbeats 8000000 in
open_top hd for PySem.Challenge.rw_pu0027_01
end Mine
end
section
open PySem PySem.W PyProof.Rows PySem.Calls
namespace Mine
noncomputable abbrev PR : Program := PySem.Challenge.rw_pu0027_01.row.prog
noncomputable abbrev KK (w : World) : Frag := hd.heap_39 w.params
noncomputable abbrev LO : List Str := looseW hd.view_39 [Str.ofString "bisect_right", Str.ofString "insort_left", Str.ofString "bisect_left", Str.ofString "_twin_re_1", Str.ofString "_twin_re_2"]

/-- a heap grows -/
def Ext (h h' : Heap) : Prop := ∀ b o, h.get? b = some o → h'.get? b = some o

section
variable {w : World} {A : Around} {E : Value → Shared → Prop} {s : Shared} {mg mb : Str → Option Value}
theorem enter {K : Frag} {p : Program} {loose : List Str} {Q : Value → Shared → Prop} {name qual : Str} {params : Arguments} {body : List Stmt} {scope : Scope} {dV kV doc pm cdv ct oc : Value} {an od : Option Addr} {osl : Array (Option Value)} {f : Addr} {vs : List Value} {binds : List (Str × Value)}
    (X : K.In s.heap) (T : TopRead p loose mg mb s.heap)
    (ho : K.lookup f = some ⟨oc, od, .func (fnOf name qual params body scope dV kV doc pm an cdv ct), osl⟩) (hcd : codeIn K cdv qual = true) (hroom : A.depth < recursionLimit)
    (hbind : BindsTo s (fnOf name qual params body scope dV kV doc pm an cdv ct) ⟨vs, []⟩ binds) (hloc : ∀ y ∈ binds, scope.names.lookup y.1 = some .local)
    (h : ∀ h₁, Fr s.heap s.heap.objs.size h₁ (fun y => binds.reverse.lookup y) → News s.heap s.heap.objs.size h₁ [] →
      wpAny (model PR w) (A.deeper (envOf qual scope s.heap.objs.size f cdv)) (execs body (envOf qual scope s.heap.objs.size f cdv))
        (fun fl s' => Q (match fl with | .ret v => v | _ => .none) s')
        (fun _ _ => False)
        { s with heap := h₁, toks := s.toks + binds.length })
    (hco : scope.isCoroutine = false) (hgen : scope.isGenerator = false) (hk : scope.kind = .function)
    (hcell : ∀ x ∈ scope.names, x.2 ≠ .cell) : wpAny (model PR w) A (call (.ref f) vs) Q E s := by
  refine wpAny_call ?_
  refine codeAny_call_def (fd := fnOf name qual params body scope dV kV doc pm an cdv ct) (body := body) (binds := binds) hroom (X _ _ ho) rfl T.nolimit (codeRec_of X hcd) rfl hbind hcell hloc (fun h₁ hns hk₁ => ?_) hco hgen hk
  exact wpAny_mono (h h₁ ⟨hns, hk₁, Nat.le_refl _⟩ News.nil) (fun _ _ x => x) (fun _ _ x => x.elim)
theorem binds_K2 {K : Frag} {fd : FuncData} {args : Args} {binds : List (Str × Value)} {T D : Addr} {o o2 : Obj} {items : Array Value} {n : Nat} {part : Option Value}
    {k : Option (Array Value) → Sem (List (Str × Value))} {k2 : Obj → Sem (List (Str × Value))} (X : K.In s.heap) (hd : fd.defaults = .ref T) (ho : K.lookup T = some o) (hs : o.data = .seq items n)
    (h₁ : bindArgs fd args = seqItems? fd.defaults >>= k) (h₂ : k (some items) = Sem.load D part k2)
    (hD : K.lookup D = some o2) (h₃ : k2 o2 = pure binds) : BindsTo s fd args binds := fun M A E Q hq => by
  rw [h₁, hd]
  refine wpAny_bind (wpAny_seqItems (X _ _ ho) hs ?_)
  rw [h₂]
  have h4 : wpAny M A (k2 o2) Q E s := by rw [h₃]; exact wpAny_pure hq
  exact wpAny_bind (m := loadPart D part) (f := k2) (wpAny_loadPart (X _ _ hD) h4)
end
end Mine
end
section
open PySem PySem.W PyProof.Rows PySem.Calls PySem.F PySem.Builtin.Re
set_option maxRecDepth 100000
namespace Mine
theorem slot_pat_sub : Slot "re.Pattern" "sub" "re.Pattern.sub" :=
  .of (owner := "re.Pattern") (n := "sub") (by rw [typeLookup_type, builtinLookup_eq_fast]; kernel_rfl) (by decide +kernel) (by decide +kernel) (by decide +kernel)
    (by first | exact .inl (by decide +kernel) | exact .inr (by decide +kernel)) (by rw [isSubtype_type]; kernel_rfl)
theorem type_pat_sub : typeOf (.builtin "re.Pattern.sub") = pure (.type "method_descriptor") := by show builtinType _ = _; rw [builtinType_eq_fast]; kernel_rfl
theorem entry_pat_sub : entryFor table "re.Pattern.sub" = some Builtin.«re.Pattern.sub» := entryFor_of_tree (by kernel_rfl)
theorem entry_pat_loop : entryFor table "re.Pattern.sub.loop" = some Builtin.«re.Pattern.sub.loop» := entryFor_of_tree (by kernel_rfl)
theorem pat_getattribute : typeLookup (.type "re.Pattern") "__getattribute__" = pure (some (.builtin "object.__getattribute__")) := by rw [typeLookup_type, builtinLookup_eq_fast]; kernel_rfl
theorem pat_getattr_none : typeLookup (.type "re.Pattern") "__getattr__" = pure none := by rw [typeLookup_type, builtinLookup_eq_fast]; kernel_rfl
theorem str_call_none : typeLookup (.type "str") "__call__" = pure none := by rw [typeLookup_type, builtinLookup_eq_fast]; kernel_rfl
theorem args_pat_sub (a b c : Value) : argsOk "re.Pattern.sub" ⟨[a, b, c], []⟩ := by
  unfold argsOk; kernel_rfl
theorem canon_oga : (Manifest.canonical "object.__getattribute__" != "object.__getattribute__") = false := by decide +kernel
section
variable {M : Model} {A : Around} {E : Value → Shared → Prop} {s : Shared}
theorem getMethod_pat_sub {l : Addr} {o : Obj} {pl : Sem Bool} {Q : Value × List Value → Shared → Prop} (ho : s.heap.get? l = some o) (hc : o.cls = .type "re.Pattern") (hd : o.dict = none)
    (h : Q (.builtin "re.Pattern.sub", [.ref l]) s) : wpAny M A (getMethod (.ref l) "sub" pl) Q E s := by
  have hT : s.TypeIs (.ref l) "re.Pattern" := ⟨o, ho, hc⟩
  unfold getMethod
  refine wpAny_bind (wpAny_specialOf hT pat_getattribute ?_)
  show wpAny M A (if (Manifest.canonical "object.__getattribute__" != "object.__getattribute__") = true then _ else _) Q E s
  rw [canon_oga, if_neg Bool.false_ne_true]
  refine wpAny_bind (wpAny_specialOf hT pat_getattr_none ?_)
  refine wpAny_bind (wpAny_specialOf hT slot_pat_sub.lookup ?_)
  refine wpAny_bind (wpAny_of_eq type_pat_sub ?_)
  refine wpAny_bind (wpAny_load ho ?_)
  rw [hd]
  exact wpAny_bind (wpAny_rule (wpAny_pure h))
end
end Mine
end
section
open PySem PySem.Sre
set_option maxRecDepth 100000
namespace Mine
namespace RX
theorem runFor_stop {m : M} (h : m.outcome.isSome = true) : ∀ k, M.runFor k m = m
  | 0 => rfl
  | k + 1 => by unfold M.runFor; rw [if_pos h]
theorem runFor_add : ∀ (a b : Nat) (m : M), M.runFor (a + b) m = M.runFor b (M.runFor a m)
  | 0, b, m => by rw [Nat.zero_add]; rfl
  | a + 1, b, m => by
    rw [Nat.succ_add]
    show (if m.outcome.isSome then m else M.runFor (a + b) m.step) = M.runFor b (if m.outcome.isSome then m else M.runFor a m.step)
    cases h : m.outcome.isSome with
    | true => simp only [if_true]; exact (runFor_stop h b).symm
    | false => simp only [Bool.false_eq_true, if_false]; exact runFor_add a b m.step
/-- the machine gets from one state to another -/
def Gets (m m' : M) : Prop := ∃ k, k ≤ 1000000000 ∧ M.runFor k m = m'
/-- within a number of steps -/
def GetsIn (k : Nat) (m m' : M) : Prop := M.runFor k m = m'
theorem GetsIn.trans {a b : Nat} {m m' m'' : M} (h : GetsIn a m m') (h' : GetsIn b m' m'') : GetsIn (a + b) m m'' := by
  unfold GetsIn at *; rw [runFor_add, h, h']
theorem GetsIn.one {m m' : M} (ho : m.outcome = none) (h : m.step = m') : GetsIn 1 m m' := by
  unfold GetsIn
  show (if m.outcome.isSome then m else M.runFor 0 m.step) = m'
  rw [ho]; exact h
theorem GetsIn.refl {m : M} : GetsIn 0 m m := rfl

/-- one step of execution -/
theorem step_exec {m : M} (ho : m.outcome = none) (ha : m.answer = none) (hp : m.pc < m.code.size) : m.step = m.exec := by
  unfold M.step
  rw [ho, ha, if_pos hp]; rfl
theorem step_end {m : M} {b : Bool} (ho : m.outcome = none) (ha : m.answer = some b) (hf : m.frames = []) : m.step = { m with outcome := some (if b then .matched else .failed) } := by
  unfold M.step
  rw [ho, ha, hf]; rfl
theorem step_resume {m : M} {b : Bool} {f : Sre.Frame} {r : List Sre.Frame} (ho : m.outcome = none) (ha : m.answer = some b) (hf : m.frames = f :: r) :
    m.step = M.resume { m with answer := none, frames := r, weight := m.weight - (1 + f.kept.marks.size), pc := f.pc, pos := f.pos, outermost := f.outermost } f b := by
  unfold M.step
  rw [ho, ha, hf]; rfl

theorem exec_lit {m : M} (hw : ops[m.word 0]? = some .LITERAL) : m.exec =
    if m.pos ≥ m.lim then { m with seen := m.seen.add (m.word 0), answer := some false }
    else if (m.text.getD m.pos 0 == m.word 1) = true then { m with seen := m.seen.add (m.word 0), pc := m.pc + 2, pos := m.pos + 1 }
    else { m with seen := m.seen.add (m.word 0), answer := some false } := by
  have hw' : ops[m.code.getD m.pc 0]? = some .LITERAL := by simpa [M.word] using hw
  unfold M.exec
  rw [hw]
  dsimp only
  split
  · rfl
  · have e : accepts m.code m.pc (m.text.getD m.pos 0) (m.seen.add (m.word 0)) = .ok (m.text.getD m.pos 0 == m.word 1, m.seen.add (m.word 0)) := by
      unfold accepts; rw [hw']; rfl
    rw [e]
    have e2 : itemWidth m.code m.pc = 2 := by unfold itemWidth; rw [hw']
    cases h : (m.text.getD m.pos 0 == m.word 1) with
    | true => simp only [if_true, e2]
    | false => simp only [Bool.false_eq_true, if_false]; rfl

def c1 : Array Nat := #[14, 4, 0, 1, 1, 6, 1, 16, 46, 1]
def c2 : Array Nat := #[14, 9, 4, 1, 2, 16, 10, 16, 13, 0, 7, 7, 16, 13, 16, 10, 15, 18, 5, 16, 10, 15, 13, 11, 16, 13, 5, 5, 0, 16, 10, 1, 15, 2, 0, 1]
/-- a state of the machine for a pattern without groups and loops -/
def St (code text : Array Nat) (lim start last pc pos handed : Nat) (outm : Bool) (frames : List Sre.Frame) (weight : Nat) (answer : Option Bool) (seen : Seen) : M :=
  { code, text, lim, start, lastStart := last, mustAdvance := false, pc, pos, handed, outermost := outm, marks := #[], frames, weight, answer, seen }
/-- whatever has been seen, the machine goes from f to g -/
def Go (k : Nat) (f g : Seen → M) : Prop := ∀ sn, ∃ sn', GetsIn k (f sn) (g sn')
theorem Go.trans {a b : Nat} {f g h : Seen → M} (x : Go a f g) (y : Go b g h) : Go (a + b) f h := fun sn => by
  obtain ⟨s1, h1⟩ := x sn
  obtain ⟨s2, h2⟩ := y s1
  exact ⟨s2, h1.trans h2⟩
theorem Go.refl {f : Seen → M} : Go 0 f f := fun sn => ⟨sn, rfl⟩
section
variable {code text : Array Nat} {lim start last pc pos handed : Nat} {outm : Bool} {frames : List Sre.Frame} {weight : Nat}
theorem go_lit_ok {c : Nat} (hp : pc < code.size) (hw : ops[code.getD pc 0]? = some .LITERAL) (hc : code.getD (pc + 1) 0 = c) (h : pos < lim) (ht : text.getD pos 0 = c) :
    Go 1 (St code text lim start last pc pos handed outm frames weight none) (St code text lim start last (pc + 2) (pos + 1) handed outm frames weight none) := fun sn => by
  refine ⟨sn.add (code.getD pc 0), GetsIn.one rfl ((step_exec (m := St code text lim start last pc pos handed outm frames weight none sn) rfl rfl hp).trans ((exec_lit (m := St code text lim start last pc pos handed outm frames weight none sn) hw).trans ?_))⟩
  refine (if_neg (Nat.not_le.mpr h)).trans ((if_pos ?_).trans rfl)
  show (text.getD pos 0 == code.getD (pc + 1) 0) = true
  rw [ht, hc]; exact beq_self_eq_true c
theorem go_lit_end (hp : pc < code.size) (hw : ops[code.getD pc 0]? = some .LITERAL) (h : lim ≤ pos) :
    Go 1 (St code text lim start last pc pos handed outm frames weight none) (St code text lim start last pc pos handed outm frames weight (some false)) := fun sn => by
  refine ⟨sn.add (code.getD pc 0), GetsIn.one rfl ((step_exec (m := St code text lim start last pc pos handed outm frames weight none sn) rfl rfl hp).trans ((exec_lit (m := St code text lim start last pc pos handed outm frames weight none sn) hw).trans ?_))⟩
  exact (if_pos h).trans rfl
theorem go_lit_no {c : Nat} (hp : pc < code.size) (hw : ops[code.getD pc 0]? = some .LITERAL) (hc : code.getD (pc + 1) 0 = c) (ht : text.getD pos 0 ≠ c) :
    Go 1 (St code text lim start last pc pos handed outm frames weight none) (St code text lim start last pc pos handed outm frames weight (some false)) := fun sn => by
  refine ⟨sn.add (code.getD pc 0), GetsIn.one rfl ((step_exec (m := St code text lim start last pc pos handed outm frames weight none sn) rfl rfl hp).trans ((exec_lit (m := St code text lim start last pc pos handed outm frames weight none sn) hw).trans ?_))⟩
  by_cases h : lim ≤ pos
  · exact (if_pos h).trans rfl
  · refine (if_neg h).trans ((if_neg ?_).trans rfl)
    show ¬ (text.getD pos 0 == code.getD (pc + 1) 0) = true
    rw [hc]; simpa using ht
end
/-- the frame of a search's start -/
def nf (pc s : Nat) (b : Bool) : Sre.Frame := { wait := .nextStart, pc, pos := s, outermost := b }
def kept0 : Sre.Kept := { lastmark := -1, lastindex := -1, whole := false, marks := #[] }
def bf (alt s : Nat) (b : Bool) : Sre.Frame := { wait := .nextBranch, pc := alt, pos := s, outermost := b, kept := kept0 }
def lf (s : Nat) (b : Bool) : Sre.Frame := { wait := .lookNot, pc := 26, pos := s, outermost := b, kept := kept0 }
section
variable {text : Array Nat} {lim start last s hd : Nat} {b : Bool}
abbrev S2 (text : Array Nat) (lim start last pc pos handed : Nat) (outm : Bool) (frames : List Sre.Frame) (weight : Nat) (answer : Option Bool) (seen : Seen) : M := St c2 text lim start last pc pos handed outm frames weight answer seen
theorem g2_branch : Go 1 (S2 text lim start last 10 s hd b [nf 10 start b] 1 none) (S2 text lim start last 12 s s b [bf 11 s b, nf 10 start b] 2 none) := fun sn => ⟨sn.add 7, GetsIn.one rfl rfl⟩
theorem g2_alt2 : Go 1 (S2 text lim start last 12 s hd b [bf 11 s b, nf 10 start b] 2 (some false)) (S2 text lim start last 19 s s b [bf 18 s b, nf 10 start b] 2 none) := fun sn => ⟨sn, GetsIn.one rfl rfl⟩
theorem g2_alt3 : Go 1 (S2 text lim start last 19 s hd b [bf 18 s b, nf 10 start b] 2 (some false)) (S2 text lim start last 24 s s b [bf 23 s b, nf 10 start b] 2 none) := fun sn => ⟨sn, GetsIn.one rfl rfl⟩
theorem g2_alt2' {pos : Nat} : Go 1 (S2 text lim start last 14 pos hd b [bf 11 s b, nf 10 start b] 2 (some false)) (S2 text lim start last 19 s s b [bf 18 s b, nf 10 start b] 2 none) := fun sn => ⟨sn, GetsIn.one rfl rfl⟩
theorem g2_jump1 {fr : List Sre.Frame} {wt : Nat} : Go 1 (S2 text lim start last 16 s hd b fr wt none) (S2 text lim start last 35 s hd b fr wt none) := fun sn => ⟨sn.add 15, GetsIn.one rfl rfl⟩
theorem g2_jump2 {fr : List Sre.Frame} {wt : Nat} : Go 1 (S2 text lim start last 21 s hd b fr wt none) (S2 text lim start last 35 s hd b fr wt none) := fun sn => ⟨sn.add 15, GetsIn.one rfl rfl⟩
theorem g2_jump3 {fr : List Sre.Frame} {wt : Nat} : Go 1 (S2 text lim start last 32 s hd b fr wt none) (S2 text lim start last 35 s hd b fr wt none) := fun sn => ⟨sn.add 15, GetsIn.one rfl rfl⟩
theorem g2_succ {fr : List Sre.Frame} {wt : Nat} : Go 1 (S2 text lim start last 35 s hd b fr wt none) (S2 text lim start last 35 s s b fr wt (some true)) := fun sn => ⟨sn.add 1, GetsIn.one rfl (by cases b <;> rfl)⟩
theorem g2_assert {fr : List Sre.Frame} : Go 1 (S2 text lim start last 26 s hd b fr 2 none) (S2 text lim start last 29 s s false (lf s b :: fr) 3 none) := fun sn => ⟨sn.add 5, GetsIn.one rfl rfl⟩
theorem g2_looked {fr : List Sre.Frame} : Go 1 (S2 text lim start last 29 s hd false (lf s b :: fr) 3 (some false)) (S2 text lim start last 32 s hd b fr 2 none) := fun sn => ⟨sn, GetsIn.one rfl rfl⟩
/-- what a finished search shows -/
def Done (m : M) (a e : Nat) : Prop := m.outcome = some .matched ∧ m.start = a ∧ m.handed = e
theorem g2_out {alt pc pos p0 : Nat} (sn : Seen) : ∃ m, GetsIn 3 (S2 text lim start last pc pos hd b [bf alt p0 b, nf 10 start b] 2 (some true) sn) m ∧ Done m start hd :=
  ⟨_, (GetsIn.one rfl rfl).trans ((GetsIn.one rfl rfl).trans (GetsIn.one rfl rfl)), rfl, rfl, rfl⟩
/-- a match from s -/
theorem g2_crlf (h1 : start + 1 < lim) (t0 : text.getD start 0 = 13) (t1 : text.getD (start + 1) 0 = 10) (sn : Seen) : ∃ k m, k ≤ 20 ∧ GetsIn k (S2 text lim start last 10 start hd b [nf 10 start b] 1 none sn) m ∧ Done m start (start + 2) := by
  have g := (((g2_branch (start := start) (s := start) (hd := hd) (b := b) (last := last)).trans (go_lit_ok (code := c2) (text := text) (lim := lim) (pos := start) (c := 13) (by decide) rfl rfl (by omega) t0)).trans (go_lit_ok (code := c2) (text := text) (lim := lim) (pc := 14) (pos := start + 1) (c := 10) (by decide) rfl rfl h1 t1)).trans (g2_jump1.trans g2_succ)
  obtain ⟨s1, h⟩ := g sn
  obtain ⟨m, hm, d⟩ := g2_out (text := text) (lim := lim) (start := start) (last := last) (hd := start + 2) (b := b) (alt := 11) (pc := 35) (pos := start + 2) (p0 := start) s1
  exact ⟨_, m, by decide, h.trans hm, d⟩
theorem g2_lf (h1 : start < lim) (t0 : text.getD start 0 = 10) (sn : Seen) : ∃ k m, k ≤ 20 ∧ GetsIn k (S2 text lim start last 10 start hd b [nf 10 start b] 1 none sn) m ∧ Done m start (start + 1) := by
  have g := (((g2_branch (start := start) (s := start) (hd := hd) (b := b) (last := last)).trans (go_lit_no (code := c2) (text := text) (lim := lim) (pos := start) (c := 13) (by decide) rfl rfl (by rw [t0]; decide))).trans g2_alt2).trans
    ((go_lit_ok (code := c2) (text := text) (lim := lim) (pc := 19) (pos := start) (c := 10) (by decide) rfl rfl h1 t0).trans g2_jump2)
  obtain ⟨s1, h⟩ := (g.trans g2_succ) sn
  obtain ⟨m, hm, d⟩ := g2_out (text := text) (lim := lim) (start := start) (last := last) (hd := start + 1) (b := b) (alt := 18) (pc := 35) (pos := start + 1) (p0 := start) s1
  exact ⟨_, m, by decide, h.trans hm, d⟩
theorem g2_cr (h1 : start < lim) (t0 : text.getD start 0 = 13) (t1 : lim ≤ start + 1 ∨ text.getD (start + 1) 0 ≠ 10) (sn : Seen) : ∃ k m, k ≤ 20 ∧ GetsIn k (S2 text lim start last 10 start hd b [nf 10 start b] 1 none sn) m ∧ Done m start (start + 1) := by
  have no : ∀ {pc hd : Nat} {outm : Bool} {fr : List Sre.Frame} {wt : Nat}, pc < c2.size → ops[c2.getD pc 0]? = some .LITERAL → c2.getD (pc + 1) 0 = 10 →
      Go 1 (St c2 text lim start last pc (start + 1) hd outm fr wt none) (St c2 text lim start last pc (start + 1) hd outm fr wt (some false)) := fun hp hw hc => t1.elim (fun e => go_lit_end hp hw e) (fun e => go_lit_no hp hw hc e)
  have g := (((g2_branch (start := start) (s := start) (hd := hd) (b := b) (last := last)).trans (go_lit_ok (code := c2) (text := text) (lim := lim) (pos := start) (c := 13) (by decide) rfl rfl h1 t0)).trans (no (pc := 14) (by decide) rfl rfl)).trans
    (g2_alt2'.trans ((go_lit_no (code := c2) (text := text) (lim := lim) (pc := 19) (pos := start) (c := 10) (by decide) rfl rfl (by rw [t0]; decide)).trans (g2_alt3.trans
      ((go_lit_ok (code := c2) (text := text) (lim := lim) (pc := 24) (pos := start) (c := 13) (by decide) rfl rfl h1 t0).trans (g2_assert.trans ((no (pc := 29) (by decide) rfl rfl).trans (g2_looked.trans (g2_jump3.trans g2_succ))))))))
  obtain ⟨s1, h⟩ := g sn
  obtain ⟨m, hm, d⟩ := g2_out (text := text) (lim := lim) (start := start) (last := last) (hd := start + 1) (b := b) (alt := 23) (pc := 35) (pos := start + 1) (p0 := start) s1
  exact ⟨_, m, by decide, h.trans hm, d⟩
end
section
variable {text : Array Nat} {lim : Nat}
theorem inSet_c2 (c : Nat) (sn : Seen) : ∃ sn', inSet c2 c c2.size 5 true sn = .ok (c == 10 || c == 13, sn') := by
  have e : inSet c2 c c2.size 5 true sn = if (c == 10) = true then .ok (true, sn.add 16) else if (c == 13) = true then .ok (true, (sn.add 16).add 16) else .ok (false, ((sn.add 16).add 16).add 0) := rfl
  rw [e]
  cases h1 : c == 10 with
  | true => exact ⟨_, rfl⟩
  | false => cases h2 : c == 13 with
    | true => exact ⟨_, rfl⟩
    | false => exact ⟨_, rfl⟩
/-- no line end from p up to q -/
def NoEol (text : Array Nat) (p q : Nat) : Prop := ∀ i, p ≤ i → i < q → text.getD i 0 ≠ 10 ∧ text.getD i 0 ≠ 13
theorem admitted_some {m : M} (hc : m.code = c2) (ht : m.text = text) (hl : m.lim = lim) {q : Nat} (hq : q < lim) (he : text.getD q 0 = 10 ∨ text.getD q 0 = 13) :
    ∀ (d s fuel : Nat) (sn : Seen), q = s + d → d < fuel → NoEol text s q → ∃ sn', M.admitted m fuel s sn = .ok (some q, sn')
  | 0, s, fuel + 1, sn, e, _, _ => by
    obtain rfl : q = s := e
    obtain ⟨sn', h⟩ := inSet_c2 (text.getD q 0) sn
    unfold M.admitted
    rw [hl, if_neg (Nat.not_le.mpr hq), hc, ht, h]
    have : (text.getD q 0 == 10 || text.getD q 0 == 13) = true := by simpa using he
    rw [this]; exact ⟨sn', rfl⟩
  | d + 1, s, fuel + 1, sn, e, hf, hn => by
    obtain ⟨sn', h⟩ := inSet_c2 (text.getD s 0) sn
    have hs : s < q := by omega
    unfold M.admitted
    rw [hl, if_neg (by omega), hc, ht, h]
    have : (text.getD s 0 == 10 || text.getD s 0 == 13) = false := by
      have := hn s (Nat.le_refl _) hs
      rw [beq_false_of_ne this.1, beq_false_of_ne this.2]; rfl
    rw [this]
    exact admitted_some hc ht hl hq he d (s + 1) fuel sn' (by omega) (by omega) fun i h1 h2 => hn i (by omega) h2
theorem admitted_none {m : M} (hc : m.code = c2) (ht : m.text = text) (hl : m.lim = lim) :
    ∀ (fuel s : Nat) (sn : Seen), NoEol text s lim → ∃ sn', M.admitted m fuel s sn = .ok (none, sn')
  | 0, s, sn, _ => ⟨sn, rfl⟩
  | fuel + 1, s, sn, hn => by
    unfold M.admitted
    rw [hl]
    by_cases h : s ≥ lim
    · rw [if_pos h]; exact ⟨sn, rfl⟩
    · obtain ⟨sn', h'⟩ := inSet_c2 (text.getD s 0) sn
      rw [if_neg h, hc, ht, h']
      have : (text.getD s 0 == 10 || text.getD s 0 == 13) = false := by
        have := hn s (Nat.le_refl _) (by omega)
        rw [beq_false_of_ne this.1, beq_false_of_ne this.2]; rfl
      rw [this]
      exact admitted_none hc ht hl fuel (s + 1) sn' fun i h1 h2 => hn i (by omega) h2
theorem search2_eq (p : Nat) : forSearch c2 text 0 p lim false =
    if (decide (p > lim) || decide (lim - p < 1)) = true then St c2 text lim p 0 10 p p true [] 0 (some false) (({} : Seen).add 14)
    else M.attemptFrom (St c2 text lim p lim 10 p p true [] 0 none (({} : Seen).add 14)) p true := rfl
theorem from2_eq (m : M) (hm : m.hasFirstSet = true) (s : Nat) (b : Bool) : m.attemptFrom s b = match M.admitted m (m.lim + 1 - s) s m.seen with
  | .ok (some s, seen) => M.attemptAt { m with mustAdvance := false, seen } s b
  | .ok (none, seen) => M.say { m with seen } false
  | .error why => m.stick why := by
  unfold M.attemptFrom
  rw [hm]; rfl
/-- the end of a search -/
def Ends (m : M) (r : Option (Nat × Nat)) : Prop := ∃ k mf, k ≤ 1000000 ∧ GetsIn k m mf ∧ (match r with | some (a, e) => Done mf a e | none => mf.outcome = some .failed)
theorem search2_some {p q e : Nat} (hpq : p ≤ q) (hq : q < lim) (hn : NoEol text p q)
    (he : (text.getD q 0 = 13 ∧ q + 1 < lim ∧ text.getD (q + 1) 0 = 10 ∧ e = q + 2) ∨ (text.getD q 0 = 10 ∧ e = q + 1) ∨ (text.getD q 0 = 13 ∧ (lim ≤ q + 1 ∨ text.getD (q + 1) 0 ≠ 10) ∧ e = q + 1)) :
    Ends (forSearch c2 text 0 p lim false) (some (q, e)) := by
  have hc : (decide (p > lim) || decide (lim - p < 1)) = false := by
    have h1 : ¬ p > lim := by omega
    have h2 : ¬ lim - p < 1 := by omega
    simp [h1, h2]
  rw [search2_eq, hc, if_neg Bool.false_ne_true, from2_eq _ rfl]
  have he' : text.getD q 0 = 10 ∨ text.getD q 0 = 13 := he.elim (fun h => .inr h.1) fun h => h.elim (fun h => .inl h.1) fun h => .inr h.1
  obtain ⟨sn', h⟩ := admitted_some (m := St c2 text lim p lim 10 p p true [] 0 none (({} : Seen).add 14)) rfl rfl rfl hq he' (q - p) p (lim + 1 - p) (({} : Seen).add 14) (by omega) (by omega) hn
  rw [show M.admitted (St c2 text lim p lim 10 p p true [] 0 none (({} : Seen).add 14)) ((St c2 text lim p lim 10 p p true [] 0 none (({} : Seen).add 14)).lim + 1 - p) p (St c2 text lim p lim 10 p p true [] 0 none (({} : Seen).add 14)).seen = _ from h]
  show Ends (S2 text lim q lim 10 q q true [nf 10 q true] 1 none sn') _
  have big : ∀ {e' : Nat}, (∃ k m, k ≤ 20 ∧ GetsIn k (S2 text lim q lim 10 q q true [nf 10 q true] 1 none sn') m ∧ Done m q e') → Ends (S2 text lim q lim 10 q q true [nf 10 q true] 1 none sn') (some (q, e')) :=
    fun ⟨k, m, h1, h2, h3⟩ => ⟨k, m, by omega, h2, h3⟩
  rcases he with ⟨t0, h1, t1, rfl⟩ | ⟨t0, rfl⟩ | ⟨t0, t1, rfl⟩
  · exact big (g2_crlf h1 t0 t1 sn')
  · exact big (g2_lf hq t0 sn')
  · exact big (g2_cr hq t0 t1 sn')
theorem search2_none {p : Nat} (hn : NoEol text p lim) : Ends (forSearch c2 text 0 p lim false) none := by
  rw [search2_eq]
  by_cases hc : (decide (p > lim) || decide (lim - p < 1)) = true
  · rw [if_pos hc]
    exact ⟨1, _, by decide, GetsIn.one rfl rfl, rfl⟩
  · rw [if_neg hc, from2_eq _ rfl]
    obtain ⟨sn', h⟩ := admitted_none (m := St c2 text lim p lim 10 p p true [] 0 none (({} : Seen).add 14)) rfl rfl rfl (lim + 1 - p) p (({} : Seen).add 14) hn
    rw [show M.admitted (St c2 text lim p lim 10 p p true [] 0 none (({} : Seen).add 14)) ((St c2 text lim p lim 10 p p true [] 0 none (({} : Seen).add 14)).lim + 1 - p) p (St c2 text lim p lim 10 p p true [] 0 none (({} : Seen).add 14)).seen = _ from h]
    exact ⟨1, _, by decide, GetsIn.one rfl rfl, rfl⟩
/-- a line begins at p -/
def Bol (text : Array Nat) (p : Nat) : Bool := p == 0 || text.getD (p - 1) 0 == 10
abbrev S1 (text : Array Nat) (lim start last pc pos handed : Nat) (outm : Bool) (frames : List Sre.Frame) (weight : Nat) (answer : Option Bool) (seen : Seen) : M := St c1 text lim start last pc pos handed outm frames weight answer seen
section
variable {start last s hd : Nat} {b : Bool}
theorem step_at (sn : Seen) : (S1 text lim start last 5 s hd b [nf 5 start b] 1 none sn).step =
    if Bol text s = true then S1 text lim start last 7 s hd b [nf 5 start b] 1 none ((sn.add 6).add 44) else S1 text lim start last 5 s hd b [nf 5 start b] 1 (some false) ((sn.add 6).add 44) := rfl
theorem g1_at_ok (h : Bol text s = true) : Go 1 (S1 text lim start last 5 s hd b [nf 5 start b] 1 none) (S1 text lim start last 7 s hd b [nf 5 start b] 1 none) :=
  fun sn => ⟨_, GetsIn.one rfl ((step_at sn).trans (if_pos h))⟩
theorem g1_at_no (h : Bol text s = false) : Go 1 (S1 text lim start last 5 s hd b [nf 5 start b] 1 none) (S1 text lim start last 5 s hd b [nf 5 start b] 1 (some false)) :=
  fun sn => ⟨_, GetsIn.one rfl ((step_at sn).trans (if_neg (by rw [h]; exact Bool.false_ne_true)))⟩
theorem g1_succ : Go 1 (S1 text lim start last 9 s hd b [nf 5 start b] 1 none) (S1 text lim start last 9 s s b [nf 5 start b] 1 (some true)) := fun sn => ⟨sn.add 1, GetsIn.one rfl (by cases b <;> rfl)⟩
theorem g1_out {pc pos : Nat} (sn : Seen) : ∃ m, GetsIn 2 (S1 text lim start last pc pos hd b [nf 5 start b] 1 (some true) sn) m ∧ Done m start hd :=
  ⟨_, (GetsIn.one rfl rfl).trans (GetsIn.one rfl rfl), rfl, rfl, rfl⟩
theorem step_next {pc pos : Nat} (sn : Seen) : (S1 text lim start last pc pos hd b [nf 5 start b] 1 (some false) sn).step =
    if start < last then S1 text lim (start + 1) last 5 (start + 1) (start + 1) false [nf 5 (start + 1) false] 1 none sn else S1 text lim start last 5 start hd b [] 0 (some false) sn := rfl
theorem g1_next {pc pos : Nat} (h : start < last) : Go 1 (S1 text lim start last pc pos hd b [nf 5 start b] 1 (some false)) (S1 text lim (start + 1) last 5 (start + 1) (start + 1) false [nf 5 (start + 1) false] 1 none) :=
  fun sn => ⟨sn, GetsIn.one rfl ((step_next sn).trans (if_pos h))⟩
theorem g1_last {pc pos : Nat} (h : last ≤ start) (sn : Seen) : ∃ m, GetsIn 2 (S1 text lim start last pc pos hd b [nf 5 start b] 1 (some false) sn) m ∧ m.outcome = some .failed :=
  ⟨_, (GetsIn.one rfl ((step_next sn).trans (if_neg (Nat.not_lt.mpr h)))).trans (GetsIn.one rfl rfl), rfl⟩
end
/-- a dot that opens a line stands at q -/
def DotAt (text : Array Nat) (lim q : Nat) : Prop := Bol text q = true ∧ q < lim ∧ text.getD q 0 = 46
theorem g1_match {s : Nat} {b : Bool} (h : DotAt text lim s) (sn : Seen) : ∃ k m, k ≤ 20 ∧ GetsIn k (S1 text lim s lim 5 s s b [nf 5 s b] 1 none sn) m ∧ Done m s (s + 1) := by
  have g := ((g1_at_ok (text := text) (lim := lim) (start := s) (last := lim) (s := s) (hd := s) (b := b) h.1).trans (go_lit_ok (code := c1) (text := text) (lim := lim) (pc := 7) (pos := s) (c := 46) (by decide) rfl rfl h.2.1 h.2.2)).trans g1_succ
  obtain ⟨s1, h1⟩ := g sn
  obtain ⟨m, hm, d⟩ := g1_out (text := text) (lim := lim) (start := s) (last := lim) (hd := s + 1) (b := b) (pc := 9) (pos := s + 1) s1
  exact ⟨_, m, by decide, h1.trans hm, d⟩
theorem g1_miss {s : Nat} {b : Bool} (h : ¬ DotAt text lim s) : ∃ k pc, k ≤ 2 ∧ Go k (S1 text lim s lim 5 s s b [nf 5 s b] 1 none) (S1 text lim s lim pc s s b [nf 5 s b] 1 (some false)) := by
  cases hb : Bol text s with
  | false => exact ⟨1, 5, by decide, g1_at_no hb⟩
  | true =>
    by_cases hl : lim ≤ s
    · exact ⟨2, 7, by decide, (g1_at_ok hb).trans (go_lit_end (code := c1) (by decide) rfl hl)⟩
    · exact ⟨2, 7, by decide, (g1_at_ok hb).trans (go_lit_no (code := c1) (c := 46) (by decide) rfl rfl fun e => h ⟨hb, by omega, e⟩)⟩
theorem g1_some {q : Nat} (hq : DotAt text lim q) : ∀ (d s : Nat) (b : Bool) (sn : Seen), q = s + d → (∀ i, s ≤ i → i < q → ¬ DotAt text lim i) →
    ∃ k m, k ≤ 3 * d + 20 ∧ GetsIn k (S1 text lim s lim 5 s s b [nf 5 s b] 1 none sn) m ∧ Done m q (q + 1)
  | 0, s, b, sn, e, _ => by
    obtain rfl : q = s := e
    exact g1_match hq sn
  | d + 1, s, b, sn, e, hn => by
    obtain ⟨k, pc, hk, g⟩ := g1_miss (b := b) (hn s (Nat.le_refl _) (by omega))
    obtain ⟨s1, h1⟩ := (g.trans (g1_next (start := s) (last := lim) (by have := hq.2.1; omega))) sn
    obtain ⟨k', m, hk', h2, d2⟩ := g1_some hq d (s + 1) false s1 (by omega) fun i a c => hn i (by omega) c
    exact ⟨_, m, by omega, h1.trans h2, d2⟩
theorem g1_none : ∀ (d s : Nat) (b : Bool) (sn : Seen), lim = s + d → (∀ i, s ≤ i → i ≤ lim → ¬ DotAt text lim i) →
    ∃ k m, k ≤ 3 * d + 20 ∧ GetsIn k (S1 text lim s lim 5 s s b [nf 5 s b] 1 none sn) m ∧ m.outcome = some .failed
  | 0, s, b, sn, e, hn => by
    obtain rfl : lim = s := e
    obtain ⟨k, pc, hk, g⟩ := g1_miss (b := b) (hn lim (Nat.le_refl _) (Nat.le_refl _))
    obtain ⟨s1, h1⟩ := g sn
    obtain ⟨m, h2, d2⟩ := g1_last (text := text) (lim := lim) (start := lim) (last := lim) (hd := lim) (b := b) (pc := pc) (pos := lim) (Nat.le_refl _) s1
    exact ⟨_, m, by omega, h1.trans h2, d2⟩
  | d + 1, s, b, sn, e, hn => by
    obtain ⟨k, pc, hk, g⟩ := g1_miss (b := b) (hn s (Nat.le_refl _) (by omega))
    obtain ⟨s1, h1⟩ := (g.trans (g1_next (start := s) (last := lim) (by omega))) sn
    obtain ⟨k', m, hk', h2, d2⟩ := g1_none d (s + 1) false s1 (by omega) fun i a c => hn i (by omega) c
    exact ⟨_, m, by omega, h1.trans h2, d2⟩
theorem search1_eq (p : Nat) : forSearch c1 text 0 p lim false =
    if (decide (p > lim) || decide (lim - p < 1)) = true then St c1 text lim p 0 5 p p true [] 0 (some false) (({} : Seen).add 14)
    else S1 text lim p lim 5 p p true [nf 5 p true] 1 none (({} : Seen).add 14) := rfl
theorem search1_some {p q : Nat} (hlim : lim ≤ 100000) (hpq : p ≤ q) (hq : DotAt text lim q) (hn : ∀ i, p ≤ i → i < q → ¬ DotAt text lim i) : Ends (forSearch c1 text 0 p lim false) (some (q, q + 1)) := by
  have := hq.2.1
  have hc : (decide (p > lim) || decide (lim - p < 1)) = false := by
    have h1 : ¬ p > lim := by omega
    have h2 : ¬ lim - p < 1 := by omega
    simp [h1, h2]
  rw [search1_eq, hc, if_neg Bool.false_ne_true]
  obtain ⟨k, m, hk, h, d⟩ := g1_some hq (q - p) p true (({} : Seen).add 14) (by omega) hn
  exact ⟨k, m, by omega, h, d⟩
theorem search1_none {p : Nat} (hlim : lim ≤ 100000) (hn : ∀ i, p ≤ i → i ≤ lim → ¬ DotAt text lim i) : Ends (forSearch c1 text 0 p lim false) none := by
  rw [search1_eq]
  by_cases hc : (decide (p > lim) || decide (lim - p < 1)) = true
  · rw [if_pos hc]
    exact ⟨1, _, by decide, GetsIn.one rfl rfl, rfl⟩
  · rw [if_neg hc]
    have : p ≤ lim := by
      by_cases h : p ≤ lim
      · exact h
      · exfalso; apply hc; simp [Nat.not_le.mp h]
    obtain ⟨k, m, hk, h, d⟩ := g1_none (lim - p) p true (({} : Seen).add 14) (by omega) hn
    exact ⟨k, m, by omega, h, d⟩
end
end RX
end Mine
end
section
open PySem PySem.W PyProof.Rows PySem.Calls PySem.F PySem.Builtin.Re
set_option maxRecDepth 100000
namespace Mine
section
variable {M : Model} {A : Around} {E : Value → Shared → Prop} {s : Shared}
open RX in
theorem wp_drive {mf : Sre.M} {Q : Sre.M → Shared → Prop} (ho : mf.outcome.isSome = true) (hQ : Q mf s) : ∀ (N k : Nat) (m : Sre.M), GetsIn k m mf → k < 4 * N → wpAny M A (reDrive N m) Q E s
  | 0, _, _, _, h => absurd h (by omega)
  | N + 1, k, m, h, hk => by
    unfold reDrive
    have e : (if (Sre.M.runFor reTurnSteps m).outcome.isSome = true then (pure (Sre.M.runFor reTurnSteps m) : Sem Sre.M) else do rule "sre.turn"; reDrive N (Sre.M.runFor reTurnSteps m)) = (if (Sre.M.runFor 4 m).outcome.isSome = true then (pure (Sre.M.runFor 4 m) : Sem Sre.M) else do rule "sre.turn"; reDrive N (Sre.M.runFor 4 m)) := rfl
    dsimp only
    rw [e]
    by_cases h4 : k ≤ 4
    · have : Sre.M.runFor 4 m = mf := by
        have := runFor_add k (4 - k) m
        rw [show k + (4 - k) = 4 by omega, h, runFor_stop ho] at this
        exact this
      rw [this, if_pos ho]
      exact wpAny_pure hQ
    · have h' : Sre.M.runFor (k - 4) (Sre.M.runFor 4 m) = mf := by
        rw [← runFor_add, show 4 + (k - 4) = k by omega]; exact h
      cases hs : (Sre.M.runFor 4 m).outcome.isSome with
      | true =>
        rw [if_pos rfl]
        rw [runFor_stop hs] at h'
        rw [h']; exact wpAny_pure hQ
      | false =>
        rw [if_neg Bool.false_ne_true]
        exact wpAny_bind (wpAny_rule (wp_drive ho hQ N (k - 4) _ h' (by omega)))
theorem wp_rules {c : Nat → Bool} {t : Nat → String} {Q : PUnit → Shared → Prop} (hQ : Q ⟨⟩ s) : ∀ l : List Nat,
    wpAny M A (forIn l PUnit.unit fun i (_ : PUnit) => (if c i = true then (do rule (t i); pure (ForInStep.yield PUnit.unit)) else pure (ForInStep.yield PUnit.unit) : Sem (ForInStep PUnit))) Q E s
  | [] => by rw [List.forIn_nil]; exact wpAny_pure hQ
  | i :: l => by
    rw [List.forIn_cons]
    refine wpAny_bind ?_
    cases c i with
    | true => rw [if_pos rfl]; exact wpAny_bind (wpAny_rule (wpAny_pure (wp_rules hQ l)))
    | false => rw [if_neg Bool.false_ne_true]; exact wpAny_pure (wp_rules hQ l)
open RX in
theorem wp_runToEnd {m : Sre.M} {r : Option (Nat × Nat)} {Q : Option Sre.M → Shared → Prop} (h : Ends m r) (h0 : r = none → Q none s) (h1 : ∀ a e m, r = some (a, e) → m.start = a → m.handed = e → Q (some m) s) : wpAny M A (reRunToEnd m) Q E s := by
  obtain ⟨k, mf, hk, hg, hr⟩ := h
  unfold reRunToEnd
  cases r with
  | none =>
    have hr : mf.outcome = some .failed := hr
    refine wpAny_bind (wp_drive (by rw [hr]; rfl) ?_ _ k m hg (by omega))
    refine wpAny_bind (wp_rules ?_ _)
    rw [hr]
    exact wpAny_pure (h0 rfl)
  | some p =>
    obtain ⟨a, e⟩ := p
    obtain ⟨ho, hs, he⟩ : mf.outcome = some .matched ∧ mf.start = a ∧ mf.handed = e := hr
    refine wpAny_bind (wp_drive (by rw [ho]; rfl) ?_ _ k m hg (by omega))
    refine wpAny_bind (wp_rules ?_ _)
    rw [ho]
    exact wpAny_pure (h1 a e mf rfl hs he)
end
end Mine
end
section
open PySem PySem.W PyProof.Rows PySem.Calls PySem.F PySem.Builtin.Re
set_option maxRecDepth 100000
namespace Mine
/-- a pattern of no groups, on texts, with its code -/
structure PatAt (h : Heap) (P : Addr) (code : Array Nat) : Prop where
  fields : ∃ po fs TP to items n, h.get? P = some po ∧ po.cls = .type "re.Pattern" ∧ po.dict = none ∧ po.data = .fields fs ∧ fs.getD 5 .none = .ref TP ∧ reRawNat (fs.getD 6 .none) = 0 ∧ reRawNat (fs.getD 2 .none) = 0 ∧
    h.get? TP = some to ∧ to.cls = .type "tuple" ∧ to.data = .seq items n ∧ (items.map reRawOf).map (·.toNat) = code
theorem PatAt.extBut {h h' : Heap} {P D : Addr} {code : Array Nat} {vs : Array Value} (x : PatAt h P code) (hD : h.PlainList D vs) (hk : Heap.ExtBut D h h') : PatAt h' P code := by
  obtain ⟨po, fs, TP, to, items, n, h1, h2, h3, h4, h5, h6, h7, h8, hc, h9, h10⟩ := x.fields
  obtain ⟨nn, hl⟩ := hD
  have ne1 : P ≠ D := by rintro rfl; rw [hl] at h1; cases h1; simp at h2
  have ne2 : TP ≠ D := by rintro rfl; rw [hl] at h8; cases h8; simp at hc
  exact ⟨po, fs, TP, to, items, n, hk _ _ ne1 h1, h2, h3, h4, h5, h6, h7, hk _ _ ne2 h8, hc, h9, h10⟩
theorem PatAt.keeps {h h' : Heap} {P : Addr} {code : Array Nat} (x : PatAt h P code) (hk : ∀ b o, h.get? b = some o → h'.get? b = some o) : PatAt h' P code := by
  obtain ⟨po, fs, TP, to, items, n, h1, h2, h3, h4, h5, h6, h7, h8, hc, h9, h10⟩ := x.fields
  exact ⟨po, fs, TP, to, items, n, hk _ _ h1, h2, h3, h4, h5, h6, h7, hk _ _ h8, hc, h9, h10⟩
section
variable {M : Model} {A : Around} {E : Value → Shared → Prop} {s : Shared}
theorem wp_if {α : Type} {c : Prop} [Decidable c] {a b : Sem α} {Q : α → Shared → Prop} (h : c) (x : wpAny M A a Q E s) : wpAny M A (if c then a else b) Q E s := by rw [if_pos h]; exact x
theorem wp_else {α : Type} {c : Prop} [Decidable c] {a b : Sem α} {Q : α → Shared → Prop} (h : ¬ c) (x : wpAny M A b Q E s) : wpAny M A (if c then a else b) Q E s := by rw [if_neg h]; exact x
theorem wp_target {P : Addr} {code : Array Nat} {x : Str} {t : Tok} {Q : ReTarget → Shared → Prop} (hp : PatAt s.heap P code)
    (hQ : Q { pattern := .ref P, string := .str x t, code, text := x.cps, kind := 0, groups := 0, pos := 0, lim := x.cps.size } s) : wpAny M A (reWholeTarget (.ref P) (.str x t)) Q E s := by
  obtain ⟨po, fs, TP, to, items, n, h1, h2, h3, h4, h5, h6, h7, h8, hc, h9, h10⟩ := hp.fields
  unfold reWholeTarget
  refine wpAny_bind (wpAny_fieldsOf h1 h4 ?_)
  have e1 : reTextOf (.str x t) = pure (x.cps, 0) := rfl
  rw [e1]
  refine wpAny_bind (wpAny_pure ?_)
  dsimp only
  rw [h5, h6, h7]
  unfold reNoCollectionInside reRawItems
  simp only [show ((0 : Nat) == 1) = false from rfl, Bool.and_false, Bool.false_and, Bool.false_eq_true, if_false]
  refine wpAny_bind (wpAny_pure ?_)
  refine wpAny_bind (wpAny_bind (wpAny_seqItems h8 h9 (wpAny_pure ?_)))
  refine wpAny_pure ?_
  show Q { pattern := .ref P, string := .str x t, code := ((items.map reRawOf).map (·.toNat)), text := x.cps, kind := 0, groups := 0, pos := 0, lim := x.cps.size } s
  rw [h10]; exact hQ
theorem wp_push {D : Addr} {xs : Array Value} {v : Value} {Q : Unit → Shared → Prop} (hp : s.heap.PlainList D xs) (hz : xs.size ≤ 1000000)
    (h : ∀ h', h'.PlainList D (xs.push v) → Heap.SameBut D s.heap h' → Q () { s with heap := h' }) : wpAny M A (updateSeq D (·.push v)) Q E s := by
  obtain ⟨n, e⟩ := hp
  refine wpAny_updateSeq e rfl (h _ ⟨n + 1, ?_⟩ (Heap.SameBut.update ..)) (by unfold sizeLine; omega) (by rw [Array.size_push]; unfold sizeLine; omega)
  rw [Heap.get?_update_self _ e rfl]
  simp [Obj.mapSeq]
end
/-- what a substitution makes of the text from p on -/
inductive Subst (find : Nat → Option (Nat × Nat)) (x rp : List Nat) : Nat → List Nat → Prop
  | stop {p : Nat} : find p = none → Subst find x rp p (x.drop p)
  | next {p a e : Nat} {out : List Nat} : find p = some (a, e) → p ≤ a → a < e → e ≤ x.length → Subst find x rp e out → Subst find x rp p ((x.drop p).take (a - p) ++ rp ++ out)
def cpsAll (ys : List Str) : List Nat := (ys.map fun y => y.cps.toList).flatten
theorem strsAre_push {vs : Array Value} {ys : List Str} (h : StrsAre vs.toList ys) (y : Str) (t : Tok) : StrsAre (vs.push (.str y t)).toList (ys ++ [y]) := by
  rw [Array.toList_push]
  generalize vs.toList = l at h
  induction h with
  | nil => exact .cons y t .nil
  | cons y' t' _ ih => exact .cons y' t' ih
theorem cpsAll_push (ys : List Str) (y : Str) : cpsAll (ys ++ [y]) = cpsAll ys ++ y.cps.toList := by simp [cpsAll]
theorem extract_list (a : Array Nat) (i j : Nat) : (a.extract i j).toList = (a.toList.drop i).take (j - i) := by simp [Array.toList_extract]
theorem join_nil : ∀ ys : List Str, Str.join ⟨#[]⟩ ys = ⟨(cpsAll ys).toArray⟩
  | [] => rfl
  | [y] => by show y = _; simp [cpsAll]
  | y :: z :: r => by
    have ih := join_nil (z :: r)
    show y ++ ⟨#[]⟩ ++ Str.join ⟨#[]⟩ (z :: r) = _
    rw [ih]
    show Str.append (Str.append y ⟨#[]⟩) ⟨(cpsAll (z :: r)).toArray⟩ = _
    simp [Str.append, cpsAll]
section
variable {prog : Program} {w : World} {A : Around} {E : Value → Shared → Prop} {s : Shared} {D : Addr}
theorem wp_slice {M : Model} {text : Array Nat} {b e : Nat} {Q : Value → Shared → Prop} (h : text.size ≤ 100000) (hQ : Q (.str ⟨text.extract b e⟩ s.toks) { s with toks := s.toks + 1 }) : wpAny M A (reSlice text 0 b e) Q E s := by
  unfold reSlice
  refine wp_if rfl (wpAny_mkStr hQ ?_)
  show (text.extract b e).size ≤ sizeLine
  rw [Array.size_extract]; unfold sizeLine; omega
theorem fin_spec {n : Int} {vs : Array Value} {ys : List Str} {text : Array Nat} {Q : Fin → Shared → Prop} (hD : s.heap.PlainList D vs) (hy : StrsAre vs.toList ys) (hl : ys.length ≤ 100000) (hc : (cpsAll ys).length ≤ 100000) (ht : text.size ≤ 100000)
    (hQ : ∀ tk tk', Q (.done (.ret (.str ⟨(cpsAll ys).toArray⟩ tk))) { s with toks := tk' }) : wpAny (model prog w) A
          (do let joiner ← reSlice text 0 0 0
              let __do_lift ← seqItems? (Value.ref D)
              if (__do_lift.getD #[]).isEmpty = true then (do let text ← pure joiner; if false = true then (do let __do_lift ← holding [text] (do newTuple [text, ← mkInt n]); ret __do_lift) else ret text)
              else (do let text ← call (Value.builtin (if ((0 : Nat) == 0) = true then "str.join" else "bytes.join")) [joiner, Value.ref D]; if false = true then (do let __do_lift ← holding [text] (do newTuple [text, ← mkInt n]); ret __do_lift) else ret text))
          Q E s := by
  obtain ⟨k, hd⟩ := id hD
  refine wpAny_bind (wp_slice ht ?_)
  refine wpAny_bind (wpAny_seqItems hd rfl ?_)
  have e0 : (⟨text.extract 0 0⟩ : Str) = ⟨#[]⟩ := by simp
  rw [e0]
  by_cases hv : vs.isEmpty = true
  · refine wp_if hv ?_
    have : vs = #[] := by simpa using hv
    subst this
    cases hy
    exact wpAny_bind (wpAny_pure (wp_else Bool.false_ne_true (wpAny_pure (hQ _ _))))
  · refine wp_else hv ?_
    refine wpAny_bind (join_list (x := ⟨#[]⟩) hD.isList hy ?_ fun t' k' => ?_)
    · have e : (ys.map (·.length)).sum = (cpsAll ys).length := by
        unfold cpsAll
        rw [List.length_flatten, List.map_map]; rfl
      show _ + _ * 0 ≤ _
      omega
    · refine wp_else Bool.false_ne_true (wpAny_pure ?_)
      have e : Txt.join ⟨#[]⟩ ys = ⟨(cpsAll ys).toArray⟩ := (StrLaws.glued_eq_join _ _).trans (join_nil ys)
      rw [e]; exact hQ _ _
end
section
variable {prog : Program} {w : World} {A : Around} {P D : Addr} {code : Array Nat} {x rp : Str} {t t2 : Tok} {R : Result → Shared → Prop}
def loopArgs (P D : Addr) (x rp : Str) (t t2 : Tok) (n p : Nat) : Args :=
  ⟨[.ref P, .str x t, .str rp t2, rawInt 0, rawInt 0, rawInt n, rawInt p, rawInt p, .bool false, .ref D, .bool false], []⟩
open RX in
theorem loop_spec {find : Nat → Option (Nat × Nat)} (hf : ∀ p, Ends (Sre.forSearch code x.cps 0 p x.cps.size false) (find p)) (hx : x.cps.size ≤ 1000) (hr : rp.cps.size ≤ 10) {p : Nat} {out : List Nat}
    (hs : Subst find x.cps.toList rp.cps.toList p out) : ∀ (s : Shared) (n : Nat) (vs : Array Value) (ys : List Str), PatAt s.heap P code → s.heap.PlainList D vs → StrsAre vs.toList ys → ys.length ≤ 2 * p → (cpsAll ys).length ≤ 11 * p →
      p ≤ x.cps.size → (∀ h' tk tk', Heap.ExtBut D s.heap h' → R (.ok (.ret (.str ⟨(cpsAll ys ++ out).toArray⟩ tk))) { s with heap := h', toks := tk' }) →
      codeAny (model prog w) A (.builtin "re.Pattern.sub.loop" (loopArgs P D x rp t t2 n p)) R s := by
  induction hs with
  | @stop p hp =>
    intro s n vs ys hP hD hy hl hc hpx hR
    refine codeAny_builtin entry_pat_loop ?_
    unfold Builtin.«re.Pattern.sub.loop» loopArgs
    dsimp only [rawInt]
    refine wpAny_bind (wp_target hP ?_)
    refine wp_if rfl ?_
    refine wpAny_bind (wpAny_of_eq (a := ()) rfl ?_)
    refine wpAny_bind (wp_else (by simp) ?_)
    unfold reNextFound
    refine wp_runToEnd (hf p) (fun _ => ?_) (fun a e m hh => by rw [hp] at hh; cases hh)
    dsimp only
    have hlen : x.cps.toList.length = x.cps.size := Array.length_toList
    have hsz : ∀ vs' ys', StrsAre vs' ys' → vs'.length = ys'.length := fun vs' ys' h => by
      induction h with
      | nil => rfl
      | cons _ _ _ ih => rw [List.length_cons, List.length_cons, ih]
    have hvs : vs.size = ys.length := by rw [← hsz _ _ hy, Array.length_toList]
    by_cases hlt : p < x.cps.size
    · refine wp_if (by simpa using hlt) ?_
      refine wpAny_bind (wp_slice (by omega) ?_)
      refine wpAny_bind (wp_push hD (by omega) fun h' hD' hS' => ?_)
      refine fin_spec hD' (strsAre_push hy _ _) (by rw [List.length_append, List.length_singleton]; omega) ?_ (by omega) fun tk tk' => ?_
      · rw [cpsAll_push, List.length_append, extract_list]; simp; omega
      · rw [cpsAll_push, extract_list]
        have e : ((x.cps.toList.drop (p : Int).toNat).take (x.cps.size - (p : Int).toNat)) = x.cps.toList.drop p := by
          rw [Int.toNat_natCast]
          apply List.take_of_length_le; rw [List.length_drop]; omega
        rw [e]
        exact hR h' tk tk' hS'.extBut
    · refine wp_else (by simpa using hlt) ?_
      refine fin_spec hD hy (by omega) (by omega) (by omega) fun tk tk' => ?_
      have e : x.cps.toList.drop p = [] := List.drop_of_length_le (by omega)
      have := hR s.heap tk tk' (Heap.ExtBut.refl _ _)
      rw [e, List.append_nil] at this
      exact this
  | @next p a e out hp h1 h2 h3 _ ih =>
    intro s n vs ys hP hD hy hl hc hpx hR
    have hlen : x.cps.toList.length = x.cps.size := Array.length_toList
    have hsz : ∀ vs' ys', StrsAre vs' ys' → vs'.length = ys'.length := fun vs' ys' h => by
      induction h with
      | nil => rfl
      | cons _ _ _ ih => rw [List.length_cons, List.length_cons, ih]
    have hvs : vs.size = ys.length := by rw [← hsz _ _ hy, Array.length_toList]
    refine codeAny_builtin entry_pat_loop ?_
    unfold Builtin.«re.Pattern.sub.loop» loopArgs
    dsimp only [rawInt]
    refine wpAny_bind (wp_target hP ?_)
    refine wp_if rfl ?_
    refine wpAny_bind (wpAny_of_eq (a := ()) rfl ?_)
    refine wpAny_bind (wp_else (by simp) ?_)
    unfold reNextFound
    refine wp_runToEnd (hf p) (fun hh => by rw [hp] at hh; cases hh) (fun a' e' m hh ha he => ?_)
    rw [hp] at hh
    cases hh
    dsimp only
    subst ha; subst he
    have hne : (m.handed == m.start) = false := by simpa using Nat.ne_of_gt h2
    rw [hne]
    have go : ∀ (s' : Shared) (vs' : Array Value) (ys' : List Str), s'.heap.PlainList D vs' → StrsAre vs'.toList ys' → cpsAll ys' = cpsAll ys ++ (x.cps.toList.drop p).take (m.start - p) → ys'.length ≤ ys.length + 1 →
        (∃ h' tk', s' = { s with heap := h', toks := tk' } ∧ Heap.ExtBut D s.heap h') →
        wpAny (model prog w) (A.under (Code.builtin "re.Pattern.sub.loop" ⟨[.ref P, .str x t, .str rp t2, .int 0 0, .int 0 0, .int n 0, .int p 0, .int p 0, .bool false, .ref D, .bool false], []⟩))
          (do let item ← pure (Value.str rp t2)
              if (item != Value.none) = true then (do
                updateSeq D fun x => x.push item
                again (Code.builtin "re.Pattern.sub.loop" ⟨[.ref P, .str x t, .str rp t2, .int 0 0, .int 0 0, .int ((n : Int) + 1) 0, .int m.handed 0, .int m.handed 0, .bool false, .ref D, .bool false], []⟩))
              else again (Code.builtin "re.Pattern.sub.loop" ⟨[.ref P, .str x t, .str rp t2, .int 0 0, .int 0 0, .int ((n : Int) + 1) 0, .int m.handed 0, .int m.handed 0, .bool false, .ref D, .bool false], []⟩))
          (fun fin s' => match fin with | .done f => R (.ok f) s' | .again c' => c'.quiet = true ∧ codeAny (model prog w) A c' R s') (fun e s' => R (.error e) s') s' := by
      rintro s' vs' ys' hD' hy' hc' hl' ⟨h', tk', rfl, hx'⟩
      have hvs' : vs'.size = ys'.length := by rw [← hsz _ _ hy', Array.length_toList]
      refine wpAny_bind (wpAny_pure (wp_if rfl ?_))
      refine wpAny_bind (wp_push hD' (by omega) fun h2' hD2 hS2 => ?_)
      refine wpAny_pure ⟨plainId_quiet (by decide +kernel) _, ?_⟩
      have hx2 : Heap.ExtBut D s.heap h2' := hx'.trans hS2.extBut
      have lenT : ((x.cps.toList.drop p).take (m.start - p)).length ≤ m.start - p := by rw [List.length_take]; omega
      refine ih _ (n + 1) _ (ys' ++ [rp]) (hP.extBut hD hx2) hD2 (strsAre_push hy' _ _) ?_ ?_ (by omega) fun h3' tk3 tk3' hx3 => ?_
      · rw [List.length_append, List.length_singleton]; omega
      · have hrl : rp.cps.toList.length = rp.cps.size := Array.length_toList
        rw [cpsAll_push, List.length_append, hc', List.length_append]; omega
      · have := hR h3' tk3 tk3' (hx2.trans hx3)
        rw [cpsAll_push, hc']
        simp only [List.append_assoc] at this ⊢
        exact this
    by_cases hlt : p < m.start
    · refine wp_if (by simpa using hlt) ?_
      refine wpAny_bind (wp_slice (by omega) ?_)
      refine wpAny_bind (wp_push hD (by omega) fun h' hD' hS' => ?_)
      refine wp_if rfl ?_
      refine go _ _ _ hD' (strsAre_push hy _ _) ?_ (by rw [List.length_append, List.length_singleton]; omega) ⟨_, _, rfl, hS'.extBut⟩
      rw [cpsAll_push, extract_list, Int.toNat_natCast]
    · refine wp_else (by simpa using hlt) ?_
      refine wp_if rfl ?_
      refine go _ _ _ hD hy ?_ (by omega) ⟨_, _, rfl, Heap.ExtBut.refl _ _⟩
      rw [show m.start - p = 0 by omega, List.take_zero, List.append_nil]
end
end Mine
end
section
open PySem PySem.W PyProof.Rows PySem.Calls PySem.F PySem.Builtin.Re
set_option maxRecDepth 100000
namespace Mine
section
variable {prog : Program} {w : World} {A : Around} {E : Value → Shared → Prop} {s : Shared} {P : Addr} {code : Array Nat} {x rp : Str} {t t2 : Tok} {Q : Value → Shared → Prop}
theorem PatAt.typeIs (hP : PatAt s.heap P code) : s.TypeIs (.ref P) "re.Pattern" := by
  obtain ⟨po, fs, TP, to, items, n, h1, h2, _⟩ := hP.fields
  exact ⟨po, h1, h2⟩
theorem named_sub (a b : Value) : reNamed "re.Pattern.sub" "sub" ["repl", "string", "count"] 2 [a, b] [] = pure [some a, some b, none] := rfl
open RX in
theorem sub_spec {find : Nat → Option (Nat × Nat)} {out : List Nat} (hP : PatAt s.heap P code) (hf : ∀ p, Ends (Sre.forSearch code x.cps 0 p x.cps.size false) (find p)) (hx : x.cps.size ≤ 1000) (hr : rp.cps.size ≤ 10) (h92 : rp.cps.contains 92 = false)
    (hs : Subst find x.cps.toList rp.cps.toList 0 out)
    (hQ : ∀ h' tk tk', (∀ b o, s.heap.get? b = some o → h'.get? b = some o) → Q (.str ⟨out.toArray⟩ tk) { s with heap := h', toks := tk' }) :
    wpAny (model prog w) A (call (.builtin "re.Pattern.sub") [.ref P, .str rp t2, .str x t]) Q E s := by
  refine wpAny_call (codeAny_call_builtin slot_pat_sub.plain entry_pat_sub ?_)
  refine slot_pat_sub.check _ _ _ _ _ _ _ _ hP.typeIs (args_pat_sub _ _ _) ?_
  unfold Builtin.«re.Pattern.sub» reSubstitute
  dsimp only
  rw [named_sub]
  refine wpAny_bind (wpAny_pure ?_)
  dsimp only
  refine wpAny_bind (wpAny_pure ?_)
  refine wpAny_bind (wpAny_specialOf (typeIs_str _ _ _) str_call_none ?_)
  refine wp_else (by simp) ?_
  refine wpAny_bind (wpAny_pure ?_)
  dsimp only
  refine wpAny_bind (wpAny_pure ?_)
  refine wp_else (by simp) ?_
  refine wp_if (by rw [h92]; rfl) ?_
  refine wpAny_bind (wpAny_pure ?_)
  refine wpAny_bind (wpAny_holding (wp_target hP ?_))
  refine wp_else (by simp) ?_
  refine wpAny_bind (wpAny_newObj_type ?_ (by show (0 : Nat) ≤ _; omega))
  refine wpAny_pure ⟨plainId_quiet (by decide +kernel) _, ?_⟩
  have hk : ∀ b o, s.heap.get? b = some o → (s.heap.push { cls := .type "list", data := .seq ([] : List Value).toArray }).get? b = some o := fun b o e => Heap.get?_push_of_some _ e
  refine loop_spec (D := s.heap.objs.size) (n := 0) (vs := #[]) (ys := []) hf hx hr hs _ (hP.keeps hk) ⟨0, Heap.get?_push_size _ rfl⟩ .nil (Nat.zero_le _) (Nat.zero_le _) (Nat.zero_le _) fun h' tk tk' hx' => ?_
  refine hQ h' tk tk' fun b o e => hx' b o (Nat.ne_of_lt (Heap.lt_size e)) (hk b o e)
end
end Mine
end
section
open PySem PySem.W PyProof.Rows
set_option maxRecDepth 100000
namespace Mine
open RX
/-- every line end made one of two signs -/
def sub2 : List Nat → List Nat
  | [] => []
  | 10 :: r => 13 :: 10 :: sub2 r
  | 13 :: 10 :: r => 13 :: 10 :: sub2 r
  | 13 :: r => 13 :: 10 :: sub2 r
  | c :: r => c :: sub2 r
theorem sub2_plain (c : Nat) (r : List Nat) (h1 : c ≠ 10) (h2 : c ≠ 13) : sub2 (c :: r) = c :: sub2 r := by
  rw [sub2]
  · exact fun h => h1 h
  · exact fun _ h _ => h2 h
  · exact fun h => h2 h
theorem sub2_append : ∀ (l r : List Nat), (∀ c ∈ l, c ≠ 10 ∧ c ≠ 13) → sub2 (l ++ r) = l ++ sub2 r
  | [], r, _ => rfl
  | c :: l, r, h => by
    have hc := h c (.head _)
    rw [List.cons_append, sub2_plain c _ hc.1 hc.2, sub2_append l r fun c' h' => h c' (.tail _ h'), List.cons_append]
/-- a dot that opens a line doubled -/
def sub1 : Bool → List Nat → List Nat
  | _, [] => []
  | b, c :: r => if b = true ∧ c = 46 then 46 :: 46 :: sub1 false r else c :: sub1 (c == 10) r
theorem getD_drop {x : Array Nat} {q : Nat} (h : q < x.size) : x.toList.drop q = x.getD q 0 :: x.toList.drop (q + 1) := by
  have h' : q < x.toList.length := by rw [Array.length_toList]; exact h
  rw [List.drop_eq_getElem_cons h']
  simp [Array.getD, h]
theorem mem_take_drop {x : Array Nat} {p q c : Nat} (h : c ∈ (x.toList.drop p).take (q - p)) : ∃ i, p ≤ i ∧ i < q ∧ i < x.size ∧ x.getD i 0 = c := by
  obtain ⟨j, hj, rfl⟩ := List.mem_iff_getElem.mp h
  rw [List.length_take, List.length_drop, Array.length_toList] at hj
  refine ⟨p + j, by omega, by omega, by omega, ?_⟩
  have : p + j < x.size := by omega
  simp [Array.getD, this, List.getElem_take, List.getElem_drop]
theorem split_at (x : Array Nat) {p q : Nat} (h : p ≤ q) : x.toList.drop p = (x.toList.drop p).take (q - p) ++ x.toList.drop q := by
  have : x.toList.drop q = (x.toList.drop p).drop (q - p) := by rw [List.drop_drop]; congr 1; omega
  rw [this, List.take_append_drop]
def EolAt (x : Array Nat) (q e : Nat) : Prop := (x.getD q 0 = 13 ∧ q + 1 < x.size ∧ x.getD (q + 1) 0 = 10 ∧ e = q + 2) ∨ (x.getD q 0 = 10 ∧ e = q + 1) ∨ (x.getD q 0 = 13 ∧ (x.size ≤ q + 1 ∨ x.getD (q + 1) 0 ≠ 10) ∧ e = q + 1)
def Spec2 (x : Array Nat) (p : Nat) : Option (Nat × Nat) → Prop
  | none => NoEol x p x.size
  | some (q, e) => p ≤ q ∧ q < x.size ∧ NoEol x p q ∧ EolAt x q e
theorem spec2_ex (x : Array Nat) : ∀ (d p : Nat), x.size ≤ p + d → ∃ r, Spec2 x p r
  | 0, p, h => ⟨none, fun i h1 h2 => by omega⟩
  | d + 1, p, h => by
    by_cases hp : p < x.size
    · have nil : NoEol x p p := fun i h1 h2 => by omega
      by_cases h10 : x.getD p 0 = 10
      · exact ⟨some (p, p + 1), Nat.le_refl _, hp, nil, .inr (.inl ⟨h10, rfl⟩)⟩
      · by_cases h13 : x.getD p 0 = 13
        · by_cases hn : p + 1 < x.size ∧ x.getD (p + 1) 0 = 10
          · exact ⟨some (p, p + 2), Nat.le_refl _, hp, nil, .inl ⟨h13, hn.1, hn.2, rfl⟩⟩
          · refine ⟨some (p, p + 1), Nat.le_refl _, hp, nil, .inr (.inr ⟨h13, ?_, rfl⟩)⟩
            by_cases hs : x.size ≤ p + 1
            · exact .inl hs
            · exact .inr fun e => hn ⟨by omega, e⟩
        · obtain ⟨r, hr⟩ := spec2_ex x d (p + 1) (by omega)
          have more : ∀ q, NoEol x (p + 1) q → NoEol x p q := fun q hq i h1 h2 => by
            by_cases hi : i = p
            · subst hi; exact ⟨h10, h13⟩
            · exact hq i (by omega) h2
          cases r with
          | none => exact ⟨none, more _ hr⟩
          | some qe => obtain ⟨q, e⟩ := qe; exact ⟨some (q, e), by have := hr.1; omega, hr.2.1, more _ hr.2.2.1, hr.2.2.2⟩
    · exact ⟨none, fun i h1 h2 => by omega⟩
theorem spec2_ends {x : Array Nat} {p : Nat} {r : Option (Nat × Nat)} (h : Spec2 x p r) : Ends (Sre.forSearch c2 x 0 p x.size false) r := by
  cases r with
  | none => exact search2_none h
  | some qe => obtain ⟨q, e⟩ := qe; exact search2_some h.1 h.2.1 h.2.2.1 h.2.2.2
theorem EolAt.sub {x : Array Nat} {q e : Nat} (hq : q < x.size) (h : EolAt x q e) : q < e ∧ e ≤ x.size ∧ sub2 (x.toList.drop q) = [13, 10] ++ sub2 (x.toList.drop e) := by
  rcases h with ⟨a, b, c, rfl⟩ | ⟨a, rfl⟩ | ⟨a, b, rfl⟩
  · refine ⟨by omega, by omega, ?_⟩
    rw [getD_drop hq, a, getD_drop b, c]; rfl
  · refine ⟨by omega, by omega, ?_⟩
    rw [getD_drop hq, a]; rfl
  · refine ⟨by omega, by omega, ?_⟩
    rw [getD_drop hq, a]
    by_cases hs : q + 1 < x.size
    · have hne : x.getD (q + 1) 0 ≠ 10 := b.resolve_left (by omega)
      rw [getD_drop hs]
      generalize x.getD (q + 1) 0 = c at hne
      rw [sub2]
      · rfl
      · intro r e; injection e with e1 _; exact hne e1
    · rw [List.drop_of_length_le (by rw [Array.length_toList]; omega)]; rfl
theorem subst2 {x : Array Nat} {find : Nat → Option (Nat × Nat)} (hf : ∀ p, Spec2 x p (find p)) : ∀ (d p : Nat), x.size ≤ p + d → Subst find x.toList [13, 10] p (sub2 (x.toList.drop p)) := by
  intro d
  induction d using Nat.strongRecOn with
  | ind d ih =>
    intro p hd
    have h := hf p
    cases hr : find p with
    | none =>
      rw [hr] at h
      have : sub2 (x.toList.drop p) = x.toList.drop p := by
        have e := sub2_append (x.toList.drop p) [] fun c hc => by
          have hc' : c ∈ (x.toList.drop p).take (x.size - p) := by
            rw [List.take_of_length_le (by rw [List.length_drop, Array.length_toList]; omega)]; exact hc
          obtain ⟨i, h1, h2, _, rfl⟩ := mem_take_drop hc'
          exact h i h1 h2
        simpa [sub2] using e
      rw [this]
      exact .stop hr
    | some qe =>
      obtain ⟨q, e⟩ := qe
      rw [hr] at h
      obtain ⟨h1, h2, h3, h4⟩ := h
      obtain ⟨h5, h6, h7⟩ := h4.sub h2
      have : sub2 (x.toList.drop p) = (x.toList.drop p).take (q - p) ++ [13, 10] ++ sub2 (x.toList.drop e) := by
        conv => lhs; rw [split_at x h1]
        rw [sub2_append _ _ fun c hc => by obtain ⟨i, a, b, _, rfl⟩ := mem_take_drop hc; exact h3 i a b, h7, List.append_assoc]
      rw [this]
      refine .next hr h1 h5 (by rw [Array.length_toList]; exact h6) (ih (x.size - e) ?_ e (by omega))
      by_cases d = 0
      · omega
      · omega
theorem run2 (x : Array Nat) : ∃ find, (∀ p, Ends (Sre.forSearch c2 x 0 p x.size false) (find p)) ∧ Subst find x.toList [13, 10] 0 (sub2 x.toList) := by
  obtain ⟨find, hf⟩ := Classical.axiomOfChoice fun p => spec2_ex x x.size p (by omega)
  exact ⟨find, fun p => spec2_ends (hf p), by have := subst2 hf x.size 0 (by omega); rwa [List.drop_zero] at this⟩
-- the dots
def Spec1 (x : Array Nat) (p : Nat) : Option (Nat × Nat) → Prop
  | none => ∀ i, p ≤ i → i ≤ x.size → ¬ DotAt x x.size i
  | some (q, e) => p ≤ q ∧ DotAt x x.size q ∧ (∀ i, p ≤ i → i < q → ¬ DotAt x x.size i) ∧ e = q + 1
theorem spec1_ex (x : Array Nat) : ∀ (d p : Nat), x.size ≤ p + d → ∃ r, Spec1 x p r
  | 0, p, h => ⟨none, fun i h1 h2 hd => by have := hd.2.1; omega⟩
  | d + 1, p, h => by
    by_cases hd : DotAt x x.size p
    · exact ⟨some (p, p + 1), Nat.le_refl _, hd, fun i h1 h2 => by omega, rfl⟩
    · obtain ⟨r, hr⟩ := spec1_ex x d (p + 1) (by omega)
      cases r with
      | none => exact ⟨none, fun i h1 h2 => by by_cases hi : i = p; (subst hi; exact hd); exact hr i (by omega) h2⟩
      | some qe => obtain ⟨q, e⟩ := qe; exact ⟨some (q, e), by have := hr.1; omega, hr.2.1, fun i h1 h2 => by by_cases hi : i = p; (subst hi; exact hd); exact hr.2.2.1 i (by omega) h2, hr.2.2.2⟩
theorem spec1_ends {x : Array Nat} (hx : x.size ≤ 1000) {p : Nat} {r : Option (Nat × Nat)} (h : Spec1 x p r) : Ends (Sre.forSearch c1 x 0 p x.size false) r := by
  cases r with
  | none => exact search1_none (by omega) h
  | some qe => obtain ⟨q, e⟩ := qe; obtain ⟨a, b, c, rfl⟩ := h; exact search1_some (by omega) a b c
theorem bol_succ (x : Array Nat) (p : Nat) : Bol x (p + 1) = (x.getD p 0 == 10) := by simp [Bol]
theorem sub1_miss {x : Array Nat} {p : Nat} (hp : p < x.size) (h : ¬ DotAt x x.size p) : sub1 (Bol x p) (x.toList.drop p) = x.getD p 0 :: sub1 (Bol x (p + 1)) (x.toList.drop (p + 1)) := by
  rw [getD_drop hp]
  show (if Bol x p = true ∧ x.getD p 0 = 46 then _ else _) = _
  rw [if_neg fun e => h ⟨e.1, hp, e.2⟩, bol_succ]
theorem sub1_hit {x : Array Nat} {p : Nat} (h : DotAt x x.size p) : sub1 (Bol x p) (x.toList.drop p) = [46, 46] ++ sub1 (Bol x (p + 1)) (x.toList.drop (p + 1)) := by
  rw [getD_drop h.2.1]
  show (if Bol x p = true ∧ x.getD p 0 = 46 then _ else _) = _
  rw [if_pos ⟨h.1, h.2.2⟩, bol_succ, h.2.2]; rfl
theorem sub1_run {x : Array Nat} : ∀ (d p q : Nat), q = p + d → q ≤ x.size → (∀ i, p ≤ i → i < q → ¬ DotAt x x.size i) → sub1 (Bol x p) (x.toList.drop p) = (x.toList.drop p).take (q - p) ++ sub1 (Bol x q) (x.toList.drop q)
  | 0, p, q, e, _, _ => by obtain rfl : q = p := e; simp
  | d + 1, p, q, e, hq, h => by
    have hp : p < x.size := by omega
    rw [sub1_miss hp (h p (Nat.le_refl _) (by omega)), sub1_run d (p + 1) q (by omega) hq fun i h1 h2 => h i (by omega) h2]
    conv => rhs; rw [getD_drop hp]
    rw [show q - p = (q - (p + 1)) + 1 by omega, List.take_succ_cons, List.cons_append]
theorem subst1 {x : Array Nat} {find : Nat → Option (Nat × Nat)} (hf : ∀ p, Spec1 x p (find p)) : ∀ (d p : Nat), x.size ≤ p + d → p ≤ x.size → Subst find x.toList [46, 46] p (sub1 (Bol x p) (x.toList.drop p)) := by
  intro d
  induction d using Nat.strongRecOn with
  | ind d ih =>
    intro p hd hp
    have h := hf p
    cases hr : find p with
    | none =>
      rw [hr] at h
      have : sub1 (Bol x p) (x.toList.drop p) = x.toList.drop p := by
        rw [sub1_run (x.size - p) p x.size (by omega) (Nat.le_refl _) fun i h1 h2 => h i h1 (by omega)]
        have e : x.toList.drop x.size = [] := List.drop_of_length_le (by rw [Array.length_toList]; omega)
        rw [e, List.take_of_length_le (by rw [List.length_drop, Array.length_toList]; omega)]
        simp [sub1]
      rw [this]
      exact .stop hr
    | some qe =>
      obtain ⟨q, e⟩ := qe
      rw [hr] at h
      obtain ⟨h1, h2, h3, rfl⟩ := h
      have hq := h2.2.1
      rw [sub1_run (q - p) p q (by omega) (by omega) h3, sub1_hit h2, ← List.append_assoc]
      exact .next hr h1 (by omega) (by rw [Array.length_toList]; omega) (ih (x.size - (q + 1)) (by omega) (q + 1) (by omega) (by omega))
theorem run1 (x : Array Nat) (hx : x.size ≤ 1000) : ∃ find, (∀ p, Ends (Sre.forSearch c1 x 0 p x.size false) (find p)) ∧ Subst find x.toList [46, 46] 0 (sub1 true x.toList) := by
  obtain ⟨find, hf⟩ := Classical.axiomOfChoice fun p => spec1_ex x x.size p (by omega)
  exact ⟨find, fun p => spec1_ends hx (hf p), by have := subst1 hf x.size 0 (by omega) (by omega); rwa [List.drop_zero] at this⟩
end Mine
end
section
open PySem PySem.W PyProof.Rows PySem.Calls
namespace Mine
set_option maxRecDepth 100000
set_option maxHeartbeats 8000000
theorem fillK : ∀ w : World, (hd.heap_39 w.params).lookup 3 = (hd.heap_39 w.params).lookup 3 ∧ PySem.Challenge.rw_pu0027_01 = PySem.Challenge.rw_pu0027_01 := by
  k_fill
  intro w; exact ⟨rfl, rfl⟩
theorem sub2_length : ∀ l : List Nat, (sub2 l).length ≤ 2 * l.length := by
  intro l
  fun_induction sub2 l <;> simp_all <;> omega
theorem pat1 {w : World} {h : Heap} (X : (hd.heap_39 w.params).In h) : PatAt h 70 RX.c1 := by
  refine ⟨_, _, 69, _, _, _, X 70 _ (by k_is), rfl, rfl, rfl, rfl, rfl, rfl, X 69 _ (by k_is), rfl, rfl, ?_⟩
  decide +kernel
theorem pat2 {w : World} {h : Heap} (X : (hd.heap_39 w.params).In h) : PatAt h 75 RX.c2 := by
  refine ⟨_, _, 74, _, _, _, X 75 _ (by k_is), rfl, rfl, rfl, rfl, rfl, rfl, X 74 _ (by k_is), rfl, rfl, ?_⟩
  decide +kernel
theorem PatAt.method {M : Model} {A : Around} {E : Value → Shared → Prop} {s : Shared} {P : Addr} {code : Array Nat} {pl : Sem Bool} {Q : Value × List Value → Shared → Prop} (hp : PatAt s.heap P code) (h : Q (.builtin "re.Pattern.sub", [.ref P]) s) : wpAny M A (getMethod (.ref P) "sub" pl) Q E s := by
  obtain ⟨po, fs, TP, to, items, n, h1, h2, h3, _⟩ := hp.fields
  exact getMethod_pat_sub h1 h2 h3 h
local macro_rules | `(tactic| walk_at "my enter") => `(tactic| (k_dflt (refine' enter ?kX ?kT ?k6 ?k7 ?kR ?k9 ?kB ?_ ?c2 ?c3 ?c4 ?c5; (case kX => assumption); (case kT => assumption); (case kR => assumption); (case k6 => k_is); (case k7 => k_is);  (case k9 => first | exact BindsTo.of_eq rfl | exact binds_K (by k_in) rfl (by k_is) rfl rfl rfl); (case c5 => decide); (case kB => exact locs rfl); (case c2 => exact rfl); (case c3 => exact rfl); (case c4 => exact rfl); k_whole)))
local macro_rules | `(tactic| walk_at "getMethod ref") => `(tactic| (k_here; first | (refine PatAt.method (pat1 (Frag.In.keeps (by k_asm) (Fr.keep (by k_asm)))) ?_) | (refine PatAt.method (pat2 (Frag.In.keeps (by k_asm) (Fr.keep (by k_asm)))) ?_)))
theorem quote_spec {w : World} {A : Around} {E : Value → Shared → Prop} {s : Shared} {mg mb : Str → Option Value} {x : Str} {t : Tok} {Q : Value → Shared → Prop}
    (X : (hd.heap_39 w.params).In s.heap) (T : TopRead hd.view_39 LO mg mb s.heap) (hh : A.handled = none) (hroom : A.depth < recursionLimit)
    (hlen : x.length ≤ 100)
    (hret : ∀ h' tk tk', Ext s.heap h' → Q (.str ⟨(sub1 true (sub2 x.cps.toList)).toArray⟩ tk) { s with heap := h', toks := tk' }) :
    wpAny (model PR w) A (call (.ref 82) [.str x t]) Q E s := by
  walk_at "my enter"
  intro h' F' N'
  (try dsimp only)
  k_steps
  obtain ⟨find, hf, hs⟩ := run2 x.cps
  have hx : x.cps.size ≤ 100 := hlen
  have h2 : (sub2 x.cps.toList).length ≤ 2 * x.cps.size := by rw [← Array.length_toList]; exact sub2_length _
  rename Fr _ _ _ _ => F
  rename News _ _ _ _ => N
  refine sub_spec (pat2 (Frag.In.keeps X F.keep)) hf (by omega) (by decide +kernel) (by decide +kernel) hs fun h₂ tk₂ tk₂' hx₂ => ?_
  have F2 := Fr.keeps F hx₂
  have N2 := News.grown N hx₂
  dsimp only
  k_steps
  obtain ⟨find1, hf1, hs1⟩ := run1 (sub2 x.cps.toList).toArray (by rw [List.size_toArray]; omega)
  rename Fr _ _ _ _ => F3
  refine sub_spec (pat1 (Frag.In.keeps X F3.keep)) hf1 (by show (sub2 x.cps.toList).toArray.size ≤ _; rw [List.size_toArray]; omega) (by decide +kernel) (by decide +kernel) hs1 fun h₃ tk₃ tk₃' hx₃ => ?_
  exact hret h₃ tk₃ tk₃' fun b o e => hx₃ b o (F3.keep b o e)
end Mine
end
section
open PySem PySem.W PyProof.Rows PySem.Calls
namespace Mine
set_option maxRecDepth 100000
section
variable {prog : Program} {w : World} {A : Around} {E : Value → Shared → Prop} {s : Shared} {h₀ : Heap} {env : Env} {x : Str} {body : List Stmt} {Q : Flow → Shared → Prop}
/-- a for over a range by ones -/
theorem iter_rng {r : Addr} {a b : Int} {t₀ u₀ v₀ : Tok} {m₀ : Str → Option Value} {news : List (Addr × Obj)} (J : Nat → (Str → Option Value) → List (Addr × Obj) → Prop) (n : Nat)
    (hh : A.handled = none) (hr : IsRange s.heap r a b 1 t₀ u₀ v₀) (hsmall : Builtin.Range.small a b 1 = true) (hn : Builtin.Range.rangeSize a b 1 = (n : Int))
    (F : Fr h₀ env.locals s.heap m₀) (N : News h₀ env.locals s.heap news) (h0 : J 0 m₀ news)
    (turn : ∀ (i : Nat) (t : Tok) m₁ news₁ h tk own, i < n → J i m₁ news₁ → (∀ p ∈ news₁, p.1 ≠ s.heap.objs.size) → (∀ p ∈ own, p.1 = s.heap.objs.size) →
      Fr h₀ env.locals h (fun y => if y = x then some (.int (a + i) t) else m₁ y) → News h₀ env.locals h (own ++ news₁) →
      wpAny (model prog w) A (execs body env) (LoopStepV h₀ env.locals [s.heap.objs.size] own (J (i + 1)) { s with heap := h, toks := tk } (fun v s' => Q (.ret v) s') fun s' => Q .next s') E { s with heap := h, toks := tk })
    (done : ∀ h' tk m' news', Fr h₀ env.locals h' m' → News h₀ env.locals h' news' → J n m' news' → Q .next { s with heap := h', toks := tk }) :
    wpAny (model prog w) A (pyIter (.ref r)) (fun it s₂ => LoopAtV prog w A h₀ env x body Q E it s₂) E s := by
  refine wpAny_pyIter_range hr hsmall ?_
  refine ⟨s.heap.objs.size, [s.heap.objs.size], [s.heap.objs.size], n, _, _, m₀, news, J, rfl, Walks.range hh _ a 1 n, ?_, ?_, ?_, ?_, F.push _, (fun p hp => ⟨Heap.get?_push_of_some _ (N p hp).1, (N p hp).2⟩), h0, ?_, ?_⟩
  · intro hm
    exact absurd F.ns.lt ((List.mem_singleton.mp hm) ▸ Nat.lt_irrefl _)
  · intro b hb
    rw [List.mem_singleton.mp hb]
    exact next_is_new F
  · intro p hp hI
    exact absurd (Heap.lt_size (N p hp).1) ((List.mem_singleton.mp hI) ▸ Nat.lt_irrefl _)
  · show IsRangeIter _ _ _ _ _; rw [hn]; simpa using Heap.get?_push_size _ rfl
  · rintro i v m₁ news₁ s₁ own ⟨hh', tk', rfl⟩ hi ⟨t, rfl⟩ hJ hoff hsub _ _ _ F₁ N₁
    rw [Int.mul_one] at F₁
    exact turn i t m₁ news₁ hh' tk' own hi hJ (fun p hp e => hoff p hp (by rw [e]; exact List.mem_singleton.mpr rfl)) (fun p hp => List.mem_singleton.mp (hsub p hp)) F₁ N₁
  · intro h' tk m' news' F' N' _ hJ
    exact done h' tk m' news' F' N' hJ
/-- a for over a list -/
theorem iter_lst {l : Addr} {vs : Array Value} {m₀ : Str → Option Value} {news : List (Addr × Obj)} (J : Nat → (Str → Option Value) → List (Addr × Obj) → Prop)
    (hh : A.handled = none) (hl : s.heap.IsList l vs) (hlL : l ≠ env.locals)
    (F : Fr h₀ env.locals s.heap m₀) (N : News h₀ env.locals s.heap news) (h0 : J 0 m₀ news)
    (turn : ∀ (i : Nat) (v : Value) m₁ news₁ h tk own, vs[i]? = some v → J i m₁ news₁ → (∀ p ∈ news₁, p.1 ≠ s.heap.objs.size) → (∀ p ∈ own, p.1 = s.heap.objs.size ∨ p.1 = l) →
      Fr h₀ env.locals h (fun y => if y = x then some v else m₁ y) → News h₀ env.locals h (own ++ news₁) →
      wpAny (model prog w) A (execs body env) (LoopStepV h₀ env.locals [s.heap.objs.size] own (J (i + 1)) { s with heap := h, toks := tk } (fun v s' => Q (.ret v) s') fun s' => Q .next s') E { s with heap := h, toks := tk })
    (done : ∀ h' tk m' news', Fr h₀ env.locals h' m' → News h₀ env.locals h' news' → J vs.size m' news' → Q .next { s with heap := h', toks := tk }) :
    wpAny (model prog w) A (pyIter (.ref l)) (fun it s₂ => LoopAtV prog w A h₀ env x body Q E it s₂) E s := by
  obtain ⟨ol, hol, _⟩ := id hl
  have hlt : l < s.heap.objs.size := Heap.lt_size hol
  refine wpAny_pyIter_list hl ?_
  refine ⟨_, _, _, vs.size, _, _, m₀, news, J, rfl, Walks.list hh s.heap.objs.size l (Nat.ne_of_lt hlt) vs, ?_, ?_, ?_, ⟨⟨_, Heap.get?_push_size _ rfl, rfl, rfl⟩, hl.at fun o e => Heap.get?_push_of_some _ e⟩, F.push _, (fun p hp => ⟨Heap.get?_push_of_some _ (N p hp).1, (N p hp).2⟩), h0, ?_, ?_⟩
  · intro hm
    rcases List.mem_cons.mp hm with e | hm
    · exact absurd F.ns.lt (e ▸ Nat.lt_irrefl _)
    · exact hlL (List.mem_singleton.mp hm).symm
  · intro b hb
    rw [List.mem_singleton.mp hb]
    exact next_is_new F
  · intro p hp hI
    exact absurd (Heap.lt_size (N p hp).1) ((List.mem_singleton.mp hI) ▸ Nat.lt_irrefl _)
  · rintro i v m₁ news₁ s₁ own ⟨hh', tk', rfl⟩ hi hP hJ hoff hsub _ _ _ F₁ N₁
    exact turn i v m₁ news₁ hh' tk' own hP hJ (fun p hp e => hoff p hp (by rw [e]; exact List.mem_singleton.mpr rfl)) (fun p hp => (List.mem_cons.mp (hsub p hp)).imp id fun h => List.mem_singleton.mp h) F₁ N₁
  · intro h' tk m' news' F' N' _ hJ
    exact done h' tk m' news' F' N' hJ
/-- the end of a turn -/
theorem turn_end {L I : Addr} {own news₂ : List (Addr × Obj)} {J : (Str → Option Value) → List (Addr × Obj) → Prop} {s₁ : Shared} {h' : Heap} {tk : Nat} {m₂ : Str → Option Value} {Qr : Value → Shared → Prop} {Qb : Shared → Prop}
    (F : Fr h₀ L h' m₂) (N : News h₀ L h' (own ++ news₂)) (ha : ∀ p ∈ news₂, p.1 ≠ I) (hJ : J m₂ news₂) : LoopStepV h₀ L [I] own J s₁ Qr Qb .next { s₁ with heap := h', toks := tk } :=
  .next (.intro F N (fun p hp e => ha p hp (List.mem_singleton.mp e)) hJ)
end
/-- a map of names, written out -/
def fmap : List (Str × Option Value) → Str → Option Value
  | [], _ => none
  | (k, v) :: r, q => if q = k then v else fmap r q
def AllAt (m : Str → Option Value) : List (Str × Option Value) → Prop
  | [] => True
  | (k, v) :: r => m k = v ∧ AllAt m r
def NotIn (q : Str) : List (Str × Option Value) → Prop
  | [] => True
  | (k, _) :: r => q ≠ k ∧ NotIn q r
theorem fmap_eq {m : Str → Option Value} : ∀ {l : List (Str × Option Value)}, AllAt m l → (∀ q, NotIn q l → m q = none) → m = fmap l := by
  intro l h1 h2
  funext q
  have key : ∀ (l : List (Str × Option Value)), AllAt m l → (NotIn q l ∧ fmap l q = none) ∨ m q = fmap l q := by
    intro l
    induction l with
    | nil => exact fun _ => .inl ⟨trivial, rfl⟩
    | cons p r ih =>
      obtain ⟨k, v⟩ := p
      intro h
      by_cases hq : q = k
      · subst hq
        refine .inr ?_
        show m q = if q = q then v else _
        rw [if_pos rfl]; exact h.1
      · rcases ih h.2 with ⟨h3, h4⟩ | h3
        · refine .inl ⟨⟨hq, h3⟩, ?_⟩
          show (if q = k then v else fmap r q) = none
          rw [if_neg hq]; exact h4
        · refine .inr ?_
          show m q = if q = k then v else fmap r q
          rw [if_neg hq]; exact h3
  rcases key l h1 with ⟨h3, h4⟩ | h3
  · rw [h4]; exact h2 q h3
  · exact h3
end Mine
end
section
open PySem PySem.W PyProof.Rows PySem.Calls
namespace Mine
set_option maxRecDepth 100000
set_option maxHeartbeats 8000000
theorem fillK2 : ∀ w : World, (hd.heap_39 w.params).lookup 3 = (hd.heap_39 w.params).lookup 3 ∧ PySem.Challenge.rw_pu0027_01 = PySem.Challenge.rw_pu0027_01 := by
  k_fill
  intro w; exact ⟨rfl, rfl⟩
def eolOf (i : Int) : List Nat := if i = 0 then [10] else if i = 1 then [13] else [13, 10]
def dots (v : Int) (k : Nat) : Nat := (v / 3 ^ k % 3).toNat
def rowRaw (v tn : Int) (k : Nat) : List Nat := List.replicate (dots v k) 46 ++ [97 + k] ++ eolOf ((tn + k) % 3)
def mailRaw (v tn : Int) (b n : Nat) : List Nat := (List.range n).flatMap fun i => rowRaw v tn (b + i)
theorem small67 : ∀ b < 7, ∀ n < 7, Builtin.Range.small ((b : Nat) : Int) ((b + n : Nat) : Int) 1 = true := by decide
theorem dots_eq (v : Int) (k : Nat) : dots v k = ((v.fdiv (3 ^ k)).fmod 3).toNat ∧ 0 ≤ (v.fdiv (3 ^ k)).fmod 3 ∧ (v.fdiv (3 ^ k)).fmod 3 < 3 := by
  have h3 : (0 : Int) ≤ 3 ^ k := Int.le_of_lt (Int.pow_pos (by decide))
  rw [Int.fdiv_eq_ediv_of_nonneg _ h3, Int.fmod_eq_emod_of_nonneg _ (by decide)]
  exact ⟨rfl, Int.emod_nonneg _ (by decide), Int.emod_lt_of_pos _ (by decide)⟩
theorem mul_dot (d : Int) (h0 : 0 ≤ d) (h3 : d < 3) : Txt.mul (Str.ofString ".") d = ⟨(List.replicate d.toNat 46).toArray⟩ := by
  have : d = 0 ∨ d = 1 ∨ d = 2 := by omega
  rcases this with rfl | rfl | rfl <;> decide +kernel
theorem eol_item (e : Int) (h0 : 0 ≤ e) (h3 : e < 3) : (List.getD [Str.ofString "\n", Str.ofString "\x0d", Str.ofString "\x0d\n"] e.toNat Str.empty) = ⟨(eolOf e).toArray⟩ := by
  have : e = 0 ∨ e = 1 ∨ e = 2 := by omega
  rcases this with rfl | rfl | rfl <;> decide +kernel
theorem letter_item (k : Nat) (h : k < 6) : Txt.item (Str.ofString "abcdef") (k : Int) = ⟨#[97 + k]⟩ := by
  match k, h with
  | 0, _ | 1, _ | 2, _ | 3, _ | 4, _ | 5, _ => decide +kernel
theorem mailRaw_succ (v tn : Int) (b i : Nat) : mailRaw v tn b (i + 1) = mailRaw v tn b i ++ rowRaw v tn (b + i) := by
  unfold mailRaw
  rw [List.range_succ, List.flatMap_append]; simp
theorem eolOf_len (e : Int) : (eolOf e).length ≤ 2 := by
  unfold eolOf; split
  · simp
  · split <;> simp
theorem str_app (a b : List Nat) : (⟨a.toArray⟩ : Str) ++ ⟨b.toArray⟩ = ⟨(a ++ b).toArray⟩ := by
  show Str.append _ _ = _
  simp [Str.append]
local macro_rules | `(tactic| walk_at "my cases") => `(tactic| ((case k6 => k_is); (case k7 => k_is); (case k9 => exact BindsTo.of_eq rfl); (case c5 => decide); (case kB => exact locs rfl); (case c2 => exact rfl); (case c3 => exact rfl); (case c4 => exact rfl)))
theorem mail_spec {w : World} {A : Around} {E : Value → Shared → Prop} {s : Shared} {mg mb : Str → Option Value} {v tn : Int} {b n : Nat} {t1 t2 t3 t4 : Tok} {Q : Value → Shared → Prop}
    (X : (hd.heap_39 w.params).In s.heap) (T : TopRead hd.view_39 LO mg mb s.heap) (hh : A.handled = none) (hroom : A.depth < recursionLimit) (hroom2 : A.depth + 1 < recursionLimit)
    (hbn : b + n ≤ 6)
    (hret : ∀ h' tk tk', Ext s.heap h' → Q (.str ⟨(sub1 true (sub2 (mailRaw v tn b n))).toArray⟩ tk) { s with heap := h', toks := tk' }) :
    wpAny (model PR w) A (call (.ref 89) [.int v t1, .int b t2, .int (b + n : Nat) t3, .int tn t4]) Q E s := by
  refine' enter (binds := [(Str.ofString "v", .int v t1), (Str.ofString "begin", .int b t2), (Str.ofString "end", .int (b + n : Nat) t3), (Str.ofString "turn", .int tn t4)]) X T ?k6 ?k7 hroom ?k9 ?kB ?_ ?c2 ?c3 ?c4 ?c5
  walk_at "my cases"
  intro h' F' N'
  k_steps
  rename IsRange _ _ _ _ _ _ _ _ => R
  rename Fr _ _ _ _ => F
  rename News _ _ _ _ => N
  have hn : Builtin.Range.rangeSize (b : Int) ((b + n : Nat) : Int) 1 = (n : Int) := by
    unfold Builtin.Range.rangeSize
    simp only [show (1 : Int) > 0 from by decide, if_true, Int.ediv_one]
    split <;> omega
  refine iter_rng (fun i m news => news = [] ∧ ∃ x t u, x = ⟨(mailRaw v tn b i).toArray⟩ ∧ x.length ≤ 5 * i ∧ m = fun y => if y = Str.ofString "mail" then some (.str x t) else if y = Str.ofString "k" then u else
    List.lookup y [(Str.ofString "turn", .int tn t4), (Str.ofString "end", .int (b + n : Nat) t3), (Str.ofString "begin", .int b t2), (Str.ofString "v", .int v t1)]) n hh R ?hs hn F N ?h0 ?turn ?done
  case hs => exact small67 b (by omega) n (by omega)
  case h0 =>
    refine ⟨rfl, Str.ofString "", tk, none, (by show Str.ofString "" = ⟨#[]⟩; decide +kernel), (by decide +kernel), funext fun y => ?_⟩
    by_cases h1 : y = Str.ofString "mail"
    · simp only [h1, if_true]
    · simp only [h1, if_false]
      by_cases h2 : y = Str.ofString "k"
      · subst h2; rfl
      · simp only [h2, if_false]; rfl
  case turn =>
    rintro i t m₁ news₁ h tk own hi ⟨rfl, x, t', u, hx, hxl, rfl⟩ hne hown F₁ N₁
    have hk0 : 0 ≤ (b : Int) + i := by omega
    have hk6 : (b : Int) + i < 6 := by omega
    have hkN : ((b : Int) + i).toNat = b + i := by omega
    have hxl' : x.length ≤ 100 := by omega
    k_steps
    have h3 : (3 : Int) ^ ((b : Int) + i).toNat ≠ 0 := by
      exact Int.ne_of_gt (Int.pow_pos (by decide))
    have h3' : ((3 : Int) ^ ((b : Int) + i).toNat).natAbs < 1073741824 := by
      have : ((b : Int) + i).toNat ≤ 6 := by omega
      generalize ((b : Int) + i).toNat = kk at this
      match kk, this with
      | 0, _ | 1, _ | 2, _ | 3, _ | 4, _ | 5, _ | 6, _ => decide
      | kk + 7, h => omega
    refine floordiv_int h3 ?_ (Or.inl (PyProof.noPylong_small h3'))
    k_steps
    have hd := dots_eq v (b + i)
    rw [← hkN] at hd
    generalize (v.fdiv (3 ^ ((b : Int) + i).toNat)).fmod 3 = dd at hd
    rw [mul_dot dd hd.2.1 hd.2.2, ← hd.1]
    rw [hkN] at hd ⊢
    generalize hy : (⟨(List.replicate (dots v (b + i)) 46).toArray⟩ : Str) = y
    have hyl : y.length ≤ 2 := by rw [← hy]; show (List.replicate _ _).toArray.size ≤ 2; simp; omega
    k_steps
    rename News _ _ _ ((_, _) :: _) => N2
    have hl2 := (N2 _ (.head _)).1
    have he : ∃ ee : Int, ee = (tn + (b + i)).fmod 3 ∧ ee = (tn + ((b + i : Nat) : Int)) % 3 ∧ 0 ≤ ee ∧ ee < 3 := by
      refine ⟨_, rfl, ?_, ?_, ?_⟩ <;> rw [Int.fmod_eq_emod_of_nonneg _ (by decide)]
      · congr 2
      · exact Int.emod_nonneg _ (by decide)
      · exact Int.emod_lt_of_pos _ (by decide)
    obtain ⟨ee, hee, hee2, he0, he3⟩ := he
    rw [← hee]
    refine item_strsA (ys := [Str.ofString "\n", Str.ofString "\x0d", Str.ofString "\x0d\n"]) ⟨_, hl2, rfl, _, rfl⟩ (.cons _ _ (.cons _ _ (.cons _ _ .nil))) he0 (by exact he3) (by omega) (fun t9 => ?_)
    rw [eol_item ee he0 he3]
    generalize hz : (⟨(eolOf ee).toArray⟩ : Str) = z
    have hzl : z.length ≤ 2 := by rw [← hz]; show (eolOf ee).toArray.size ≤ 2; rw [List.size_toArray]; exact eolOf_len ee
    k_steps
    rename Fr _ _ _ _ => F9
    rename News _ _ _ _ => N9
    have hlet : Txt.item (Str.ofString "abcdef") ((b : Int) + i) = ⟨[97 + (b + i)].toArray⟩ := letter_item (b + i) (by omega)
    refine' LoopStepU.intro (news₂ := []) F9 (fun p hp => N9 p (.tail _ hp)) (fun p hp => nomatch hp) ⟨rfl, ?xx, ?tt, some (.int (b + i) t), ?ea, ?eb, funext fun q => ?ec⟩
    case ec =>
      by_cases h1 : q = Str.ofString "mail"
      · simp only [h1, if_true]; rfl
      · simp only [h1, if_false]
        by_cases h2 : q = Str.ofString "k"
        · simp only [h2, if_true]
        · simp only [h2, if_false]
    case ea =>
      rw [hlet, hx, ← hy, ← hz, str_app, str_app, str_app, mailRaw_succ]
      unfold rowRaw
      rw [hee2]; simp only [List.append_assoc]
    case eb =>
      rw [hlet]
      simp only [Str.length_append]
      show x.length + y.length + 1 + z.length ≤ _
      omega
  case done =>
    rintro h₂ tk₂ m' news' F₂ N₂ ⟨rfl, x, t', u, hx, hxl, rfl⟩
    k_steps
    rename Fr _ _ _ _ => F9
    refine quote_spec (Frag.In.keeps X F9.keep) (TopRead.keeps T F9.keep) hh hroom2 (by omega) fun h₃ tk₃ tk₃' hx₃ => ?_
    have := hret h₃ tk₃ tk₃' fun b o e => hx₃ b o (F9.keep b o e)
    rw [hx]
    exact this
end Mine
end
section
open PySem PySem.W PyProof.Rows PySem.Calls
namespace Mine
set_option maxRecDepth 100000
set_option maxHeartbeats 8000000
theorem fillK3 : ∀ w : World, (hd.heap_39 w.params).lookup 3 = (hd.heap_39 w.params).lookup 3 ∧ PySem.Challenge.rw_pu0027_01 = PySem.Challenge.rw_pu0027_01 := by
  k_fill
  intro w; exact ⟨rfl, rfl⟩
abbrev At (dp : Nat) (fr : Option (List Env)) (gd : Option (List Code)) (un : Nat) : Around := { handled := none, depth := dp, frames := fr, guards := gd, units := un }
open PySem.Builtin.Str PySem.Builtin in
theorem gives_find4 (x y : Str) (p : Nat) (t u v v' : Tok) : Gives («str.find» ⟨[.str x t, .str y u, .int p v, .int x.length v'], []⟩) (.int (match occurrences x y p x.length 1 with | k :: _ => (k : Int) | [] => -1)) := by
  show Gives (match occurrences x y (PySem.fromIndex x.length p) (min (PySem.fromIndex x.length x.length) x.length) 1 with | k :: _ => retInt k | [] => (do rule "str.find.not-found"; retInt (-1))) _
  have e1 : ∀ q : Nat, PySem.fromIndex x.length (q : Int) = q := fun q => by unfold PySem.fromIndex; rw [if_neg (by omega)]; omega
  rw [e1, e1, Nat.min_self]
  cases occurrences x y p x.length 1 with
  | nil => exact .rule (.of_eq rfl)
  | cons k _ => exact .of_eq rfl
def findFrom (y w : Str) (p : Nat) : Option Nat := (Builtin.Str.occurrences y w p y.length 1).head?
/-- the pieces are found one behind the other -/
def seqFind (y : Str) : List Str → Nat → Bool
  | [], _ => true
  | w :: r, p => match findFrom y w p with
    | none => false
    | some i => seqFind y r (i + w.length)
theorem seqFind_none {y w : Str} {r : List Str} {p : Nat} (h : findFrom y w p = none) : seqFind y (w :: r) p = false := by
  show (match findFrom y w p with | none => false | some i => seqFind y r (i + w.length)) = false
  rw [h]
theorem seqFind_some {y w : Str} {r : List Str} {p i : Nat} (h : findFrom y w p = some i) : seqFind y (w :: r) p = seqFind y r (i + w.length) := by
  show (match findFrom y w p with | none => false | some i => seqFind y r (i + w.length)) = _
  rw [h]
theorem call_find4 {prog : Program} {w : World} {A : Around} {E : Value → Shared → Prop} {s : Shared} {x y : Str} {p : Nat} {t u v v' : Tok} {Q : Value → Shared → Prop}
    (h0 : findFrom x y p = none → Q (.int (-1) s.toks) { s with toks := s.toks + 1 }) (h1 : ∀ i : Nat, findFrom x y p = some i → i + y.length ≤ x.length → Q (.int i s.toks) { s with toks := s.toks + 1 }) :
    wpAny (model prog w) A (call (.builtin "str.find") [.str x t, .str y u, .int p v, .int x.length v']) Q E s := by
  refine PySem.call_gives F.slot_str_find (typeIs_str _ _ _) F.entry_str_find (F.args_str_find_4 _ _ _ _) (gives_find4 x y p t u v v') ?_
  unfold findFrom at h0 h1
  rcases StrLaws.occ_head_from x y p 1 (Nat.le_refl _) with ⟨e, _⟩ | ⟨i, r, e, _, ha, _⟩
  · rw [e] at h0 ⊢; exact h0 rfl
  · rw [e] at h1 ⊢; exact h1 i rfl ha.1
local macro_rules | `(tactic| walk_at "my cases") => `(tactic| ((case k6 => k_is); (case k7 => k_is); (case k9 => exact BindsTo.of_eq rfl); (case c5 => decide); (case kB => exact locs rfl); (case c2 => exact rfl); (case c3 => exact rfl); (case c4 => exact rfl)))
theorem em_spec {w : World} {dp un : Nat} {fr : Option (List Env)} {gd : Option (List Code)} {E : Value → Shared → Prop} {s : Shared} {mg mb : Str → Option Value} {x y : Str} {t u : Tok} {Q : Value → Shared → Prop}
    (X : (hd.heap_39 w.params).In s.heap) (T : TopRead hd.view_39 LO mg mb s.heap) (hroom : dp < recursionLimit)
    (hlx : x.length ≤ 1000) (hly : y.length ≤ 1000) {mid : List Str} (hsplit : Txt.split x (Str.ofString "...") = Str.empty :: (mid ++ [Str.empty])) (hin : Txt.contains x (Str.ofString "...") = true)
    (hret : ∀ h' tk', Ext s.heap h' → Q (.bool (seqFind y (Txt.split x (Str.ofString "...")) 0)) { s with heap := h', toks := tk' }) :
    wpAny (model PR w) (At dp fr gd un) (call (.ref 65) [.str x t, .str y u]) Q E s := by
  refine' enter (binds := [(Str.ofString "want", .str x t), (Str.ofString "got", .str y u)]) X T ?k6 ?k7 hroom ?k9 ?kB ?_ ?c2 ?c3 ?c4 ?c5
  walk_at "my cases"
  intro h' F' N'
  k_steps
  · exfalso
    rename (Builtin.Str.occurrences _ _ _ _ _).isEmpty = true => hc
    unfold Txt.contains at hin
    rw [hc] at hin; cases hin
  · rename List.map _ _ = Txt.split _ _ => hl
    rename _ = some _ => hyy
    rw [hl, hsplit] at hyy
    cases hyy
    refine P.truthy_str (by decide) ?_
    k_steps
    generalize hww : List.getD _ _ _ = ww
    have hw0 : ww = Str.empty := by
      rw [← hww, hl, hsplit]
      have : (-1 + ((Str.empty :: (mid ++ [Str.empty])).length : Int)).toNat = mid.length + 1 := by simp; omega
      rw [this]; simp
    subst hw0
    refine P.truthy_str (by decide) ?_
    k_steps
    rename Fr _ _ _ _ => F
    rename News _ _ _ _ => N
    rename StrsAre _ _ => hsa
    rename List (Str × Tok) => l
    have hL := N _ (.tail _ (.head _))
    refine iter_lst (l := h'.objs.size) (fun i m news => ∃ (p : Nat) (t' : Tok) (ww : Option Value) (t2 : Tok), p ≤ y.length ∧ seqFind y (Txt.split x (Str.ofString "...")) 0 = seqFind y ((Txt.split x (Str.ofString "...")).drop i) p ∧ m = fmap [(Str.ofString "w", ww), (Str.ofString "startpos", some (.int p t')), (Str.ofString "endpos", some (.int y.length t2)), (Str.ofString "ws", some (.ref h'.objs.size)), (Str.ofString "want", some (.str x t)), (Str.ofString "got", some (.str y u))]) rfl ⟨_, hL.1, rfl, _, rfl⟩ hL.2.1 F N ?h0 ?turn ?done
    case h0 =>
      refine ⟨0, _, _, _, Nat.zero_le _, rfl, fmap_eq ⟨rfl, rfl, rfl, rfl, rfl, rfl, trivial⟩ fun q hq => ?_⟩
      obtain ⟨h1, h2, h3, h4, h5, h6, _⟩ := hq
      simp only [if_neg h1, if_neg h2, if_neg h3, if_neg h4, List.reverse_cons, List.reverse_nil, List.nil_append, List.cons_append, List.lookup_cons, beq_false_of_ne h5, beq_false_of_ne h6, List.lookup_nil]
    case turn =>
      rintro i v m₁ news₁ h tk own hv ⟨p, t', ww, t2, hp, hsq, rfl⟩ hne hown F₁ N₁
      have : ∃ yw tw, v = .str yw tw ∧ (Txt.split x (Str.ofString "..."))[i]? = some yw := by
        rw [← hl]
        rw [List.getElem?_toArray] at hv
        unfold strValues at hv
        rw [List.getElem?_map] at hv
        cases hq : l[i]? with
        | none => rw [hq] at hv; cases hv
        | some q => rw [hq] at hv; cases hv; exact ⟨q.1, q.2, rfl, by rw [List.getElem?_map, hq]; rfl⟩
      obtain ⟨yw, tw, rfl, hyw⟩ := this
      have hdrop : (Txt.split x (Str.ofString "...")).drop i = yw :: (Txt.split x (Str.ofString "...")).drop (i + 1) := by
        obtain ⟨hi, he⟩ := List.getElem?_eq_some_iff.mp hyw
        rw [List.drop_eq_getElem_cons hi, he]
      rw [hdrop] at hsq
      k_steps
      refine call_find4 (fun hf => ?_) fun k hf hk => ?_
      · rw [seqFind_none hf] at hsq
        k_steps
        rename Fr _ _ _ _ => F9
        have hfin : ∀ h' tk', Ext s.heap h' → Q (.bool false) { s with heap := h', toks := tk' } := fun h' tk' hx => by
          have := hret h' tk' hx
          rw [hsq] at this
          exact this
        exact hfin _ _ F9.keep
      · rw [seqFind_some hf] at hsq
        have hyl : yw.length ≤ 1000 := by omega
        k_steps
        rename Fr _ _ _ _ => F9
        rename News _ _ _ _ => N9
        refine LoopStepU.intro F9 N9 (fun p hp e => hne p hp (List.mem_singleton.mp e)) ⟨k + yw.length, _, _, _, by omega, hsq, fmap_eq ⟨rfl, rfl, rfl, rfl, rfl, rfl, trivial⟩ fun q hq => ?_⟩
        obtain ⟨h1, h2, h3, h4, h5, h6, _⟩ := hq
        simp only [fmap, if_neg h1, if_neg h2, if_neg h3, if_neg h4, if_neg h5, if_neg h6]
    case done =>
      rintro h₂ tk₂ m' news' F₂ N₂ ⟨p, t', ww, t2, hp, hsq, rfl⟩
      k_steps
      rename Fr _ _ _ _ => F9
      have hend : seqFind y (Txt.split x (Str.ofString "...")) 0 = true := by
        rw [hsq, List.drop_of_length_le]
        · rfl
        · rw [← hl]; simp [strValues]
      have := hret h₂ tk₂ F9.keep
      rw [hend] at this
      exact this
  · exfalso
    rename List.map _ _ = Txt.split _ _ => hl
    rename ¬ _ => hlen2
    have := congrArg List.length (hl.trans hsplit)
    simp at this
    omega
end Mine
end
section
open PySem PySem.W PyProof.Rows PySem.Calls
namespace Mine
set_option maxRecDepth 100000
set_option maxHeartbeats 8000000
theorem fillK4 : ∀ w : World, (hd.heap_39 w.params).lookup 3 = (hd.heap_39 w.params).lookup 3 ∧ PySem.Challenge.rw_pu0027_01 = PySem.Challenge.rw_pu0027_01 := by
  k_fill
  intro w; exact ⟨rfl, rfl⟩
theorem countP_at (p : Int → Bool) (ns : List Int) (k : Nat) (hk : k ≤ ns.length) (h1 : ∀ i, i < k → p (ns.getD i 0) = true) (h2 : ∀ i, k ≤ i → i < ns.length → p (ns.getD i 0) = false) : ns.countP p = k := by
  have e : ns = ns.take k ++ ns.drop k := (List.take_append_drop k ns).symm
  have hget : ∀ i (hi : i < ns.length), ns.getD i 0 = ns[i] := fun i hi => by simp [List.getD, hi]
  have c1 : (ns.take k).countP p = k := by
    have : (ns.take k).countP p = (ns.take k).length := List.countP_eq_length.mpr fun a ha => by
      obtain ⟨i, hi, rfl⟩ := List.mem_iff_getElem.mp ha
      rw [List.length_take] at hi
      have := h1 i (by omega)
      rw [hget i (by omega)] at this
      simpa [List.getElem_take] using this
    rw [this, List.length_take]; omega
  have c2 : (ns.drop k).countP p = 0 := List.countP_eq_zero.mpr fun a ha => by
    obtain ⟨i, hi, rfl⟩ := List.mem_iff_getElem.mp ha
    rw [List.length_drop] at hi
    have := h2 (k + i) (by omega) (by omega)
    rw [hget (k + i) (by omega)] at this
    simp [List.getElem_drop, this]
  rw [e, List.countP_append, c1, c2]; rfl
def Sorted (ns : List Int) : Prop := ∀ i j, i ≤ j → j < ns.length → ns.getD i 0 ≤ ns.getD j 0
local macro_rules | `(tactic| walk_at "my cases2") => `(tactic| ((case k6 => k_is); (case k7 => k_is); (case k9 => (refine' binds_K2 (by assumption) ?a1 ?a2 ?a3 ?a4 ?a5 ?a6 ?a7; (case a1 => exact rfl); (case a2 => k_is); (case a3 => exact rfl); (case a4 => exact rfl); (case a5 => exact rfl); (case a6 => k_is); (case a7 => exact rfl))); (case c5 => decide); (case kB => exact locs rfl); (case c2 => exact rfl); (case c3 => exact rfl); (case c4 => exact rfl)))
local macro_rules | `(tactic| walk_at "exec While Compare cons nil") => `(tactic| k_extra "exec While Compare cons nil")
theorem bl_spec {w : World} {dp un : Nat} {fr : Option (List Env)} {gd : Option (List Code)} {E : Value → Shared → Prop} {s : Shared} {mg mb : Str → Option Value} {a : Addr} {vs : List Value} {ns : List Int} {x : Int} {t : Tok} {Q : Value → Shared → Prop}
    (X : (hd.heap_39 w.params).In s.heap) (T : TopRead hd.view_39 LO mg mb s.heap) (hroom : dp < recursionLimit)
    (hl : s.heap.IsList a vs.toArray) (hi : IntsAre vs ns) (hlen : ns.length ≤ 100) (hs : Sorted ns)
    (hret : ∀ h' tk tk', Ext s.heap h' → Q (.int (ns.countP fun y => decide (y < x)) tk) { s with heap := h', toks := tk' }) :
    wpAny (model PR w) (At dp fr gd un) (call (.ref 58) [.ref a, .int x t]) Q E s := by
  refine' enter (binds := [(Str.ofString "a", .ref a), (Str.ofString "x", .int x t), (Str.ofString "lo", .int 0 311), (Str.ofString "hi", .none), (Str.ofString "key", .none)]) X T ?k6 ?k7 hroom ?k9 ?kB ?_ ?c2 ?c3 ?c4 ?c5
  walk_at "my cases2"
  intro h' F' N'
  repeat ((fail_if_success (with_reducible show wpAny _ _ (exec (Stmt.While _ _ _ _) _) _ _ _)); first | (k_unfold; try dsimp only) | walk1 | (dsimp only; walk1))
  rename Fr _ _ _ _ => F
  rename News _ _ _ _ => N
  refine While_inv (n₀ := ns.length) (fun n m news => news = [] ∧ ∃ (lo hi : Nat) (t1 t2 : Tok) (mv : Option Value), n = hi - lo ∧ lo ≤ hi ∧ hi ≤ ns.length ∧ (∀ i, i < lo → ns.getD i 0 < x) ∧ (∀ i, hi ≤ i → i < ns.length → ¬ ns.getD i 0 < x) ∧
      m = fmap [(Str.ofString "mid", mv), (Str.ofString "lo", some (.int lo t1)), (Str.ofString "hi", some (.int hi t2)), (Str.ofString "a", some (.ref a)), (Str.ofString "x", some (.int x t)), (Str.ofString "key", some .none)]) F N ?h0 ?turn
  case h0 =>
    refine ⟨rfl, 0, ns.length, _, _, _, rfl, Nat.zero_le _, Nat.le_refl _, fun i h => absurd h (Nat.not_lt_zero _), fun i h1 h2 => absurd h2 (by omega), fmap_eq ⟨rfl, rfl, rfl, rfl, rfl, rfl, trivial⟩ fun q hq => ?_⟩
    obtain ⟨h1, h2, h3, h4, h5, h6, _⟩ := hq
    simp only [if_neg h3, List.reverse_cons, List.reverse_nil, List.nil_append, List.cons_append, List.lookup_cons, beq_false_of_ne h2, beq_false_of_ne h3, beq_false_of_ne h4, beq_false_of_ne h5, beq_false_of_ne h6, List.lookup_nil]
  case turn =>
    rintro n m₁ news₁ h₁ tk₁ F₁ N₁ ⟨rfl, lo, hi', t1, t2, mv, hn, h1, h2, h3, h4, rfl⟩
    have hmid' : ((lo : Int) + hi').fdiv 2 = (((lo + hi') / 2 : Nat) : Int) := by rw [Int.fdiv_eq_ediv_of_nonneg _ (by decide)]; omega
    have hmid : (((lo : Int) + hi').fdiv 2).toNat = (lo + hi') / 2 := by rw [hmid']; omega
    k_steps
    · rename List.getD _ _ _ < _ => hc
      rename (lo : Int) < hi' => hlt
      rename Fr _ _ _ _ => F9
      rw [hmid] at hc
      refine WhileStep.intro (n' := hi' - ((lo + hi') / 2 + 1)) F9 News.nil (by omega) ⟨rfl, (lo + hi') / 2 + 1, hi', _, _, _, rfl, by omega, h2, fun i hi => Int.lt_of_le_of_lt (hs i ((lo + hi') / 2) (by omega) (by omega)) hc, h4, fmap_eq ⟨rfl, by rw [hmid']; rfl, rfl, rfl, rfl, rfl, trivial⟩ fun q hq => ?_⟩
      obtain ⟨h1, h2, h3, h4, h5, h6, _⟩ := hq
      simp only [fmap, if_neg h1, if_neg h2, if_neg h3, if_neg h4, if_neg h5, if_neg h6]
    · rename ¬ List.getD _ _ _ < _ => hc
      rename (lo : Int) < hi' => hlt
      rename Fr _ _ _ _ => F9
      rw [hmid] at hc
      refine WhileStep.intro (n' := (lo + hi') / 2 - lo) F9 News.nil (by omega) ⟨rfl, lo, (lo + hi') / 2, _, _, _, rfl, by omega, by omega, h3, fun i hi hil => fun hh => hc (Int.lt_of_le_of_lt (hs ((lo + hi') / 2) i hi hil) hh), fmap_eq ⟨rfl, rfl, by rw [hmid']; rfl, rfl, rfl, rfl, trivial⟩ fun q hq => ?_⟩
      obtain ⟨h1, h2, h3, h4, h5, h6, _⟩ := hq
      simp only [fmap, if_neg h1, if_neg h2, if_neg h3, if_neg h4, if_neg h5, if_neg h6]
    · rename ¬ (lo : Int) < hi' => hlt
      rename Fr _ _ _ _ => F9
      have e : ns.countP (fun y => decide (y < x)) = lo := countP_at _ ns lo (by omega) (fun i hi => by simpa using h3 i hi) (fun i hi hil => by simpa using h4 i (by omega) hil)
      rw [e] at hret
      exact hret h₁ t1 _ F9.keep
theorem bl_spec4 {w : World} {dp un : Nat} {fr : Option (List Env)} {gd : Option (List Code)} {E : Value → Shared → Prop} {s : Shared} {mg mb : Str → Option Value} {a : Addr} {vs : List Value} {ns : List Int} {x : Int} {t : Tok} {tl : Tok} {Q : Value → Shared → Prop}
    (X : (hd.heap_39 w.params).In s.heap) (T : TopRead hd.view_39 LO mg mb s.heap) (hroom : dp < recursionLimit)
    (hl : s.heap.IsList a vs.toArray) (hi : IntsAre vs ns) (hlen : ns.length ≤ 100) (hs : Sorted ns)
    (hret : ∀ h' tk tk', Ext s.heap h' → Q (.int (ns.countP fun y => decide (y < x)) tk) { s with heap := h', toks := tk' }) :
    wpAny (model PR w) (At dp fr gd un) (call (.ref 58) [.ref a, .int x t, .int 0 tl, .none]) Q E s := by
  refine' enter (binds := [(Str.ofString "a", .ref a), (Str.ofString "x", .int x t), (Str.ofString "lo", .int 0 tl), (Str.ofString "hi", .none), (Str.ofString "key", .none)]) X T ?k6 ?k7 hroom ?k9 ?kB ?_ ?c2 ?c3 ?c4 ?c5
  walk_at "my cases2"
  intro h' F' N'
  repeat ((fail_if_success (with_reducible show wpAny _ _ (exec (Stmt.While _ _ _ _) _) _ _ _)); first | (k_unfold; try dsimp only) | walk1 | (dsimp only; walk1))
  rename Fr _ _ _ _ => F
  rename News _ _ _ _ => N
  refine While_inv (n₀ := ns.length) (fun n m news => news = [] ∧ ∃ (lo hi : Nat) (t1 t2 : Tok) (mv : Option Value), n = hi - lo ∧ lo ≤ hi ∧ hi ≤ ns.length ∧ (∀ i, i < lo → ns.getD i 0 < x) ∧ (∀ i, hi ≤ i → i < ns.length → ¬ ns.getD i 0 < x) ∧
      m = fmap [(Str.ofString "mid", mv), (Str.ofString "lo", some (.int lo t1)), (Str.ofString "hi", some (.int hi t2)), (Str.ofString "a", some (.ref a)), (Str.ofString "x", some (.int x t)), (Str.ofString "key", some .none)]) F N ?h0 ?turn
  case h0 =>
    refine ⟨rfl, 0, ns.length, _, _, _, rfl, Nat.zero_le _, Nat.le_refl _, fun i h => absurd h (Nat.not_lt_zero _), fun i h1 h2 => absurd h2 (by omega), fmap_eq ⟨rfl, rfl, rfl, rfl, rfl, rfl, trivial⟩ fun q hq => ?_⟩
    obtain ⟨h1, h2, h3, h4, h5, h6, _⟩ := hq
    simp only [if_neg h3, List.reverse_cons, List.reverse_nil, List.nil_append, List.cons_append, List.lookup_cons, beq_false_of_ne h2, beq_false_of_ne h3, beq_false_of_ne h4, beq_false_of_ne h5, beq_false_of_ne h6, List.lookup_nil]
  case turn =>
    rintro n m₁ news₁ h₁ tk₁ F₁ N₁ ⟨rfl, lo, hi', t1, t2, mv, hn, h1, h2, h3, h4, rfl⟩
    have hmid' : ((lo : Int) + hi').fdiv 2 = (((lo + hi') / 2 : Nat) : Int) := by rw [Int.fdiv_eq_ediv_of_nonneg _ (by decide)]; omega
    have hmid : (((lo : Int) + hi').fdiv 2).toNat = (lo + hi') / 2 := by rw [hmid']; omega
    k_steps
    · rename List.getD _ _ _ < _ => hc
      rename (lo : Int) < hi' => hlt
      rename Fr _ _ _ _ => F9
      rw [hmid] at hc
      refine WhileStep.intro (n' := hi' - ((lo + hi') / 2 + 1)) F9 News.nil (by omega) ⟨rfl, (lo + hi') / 2 + 1, hi', _, _, _, rfl, by omega, h2, fun i hi => Int.lt_of_le_of_lt (hs i ((lo + hi') / 2) (by omega) (by omega)) hc, h4, fmap_eq ⟨rfl, by rw [hmid']; rfl, rfl, rfl, rfl, rfl, trivial⟩ fun q hq => ?_⟩
      obtain ⟨h1, h2, h3, h4, h5, h6, _⟩ := hq
      simp only [fmap, if_neg h1, if_neg h2, if_neg h3, if_neg h4, if_neg h5, if_neg h6]
    · rename ¬ List.getD _ _ _ < _ => hc
      rename (lo : Int) < hi' => hlt
      rename Fr _ _ _ _ => F9
      rw [hmid] at hc
      refine WhileStep.intro (n' := (lo + hi') / 2 - lo) F9 News.nil (by omega) ⟨rfl, lo, (lo + hi') / 2, _, _, _, rfl, by omega, by omega, h3, fun i hi hil => fun hh => hc (Int.lt_of_le_of_lt (hs ((lo + hi') / 2) i hi hil) hh), fmap_eq ⟨rfl, rfl, by rw [hmid']; rfl, rfl, rfl, rfl, trivial⟩ fun q hq => ?_⟩
      obtain ⟨h1, h2, h3, h4, h5, h6, _⟩ := hq
      simp only [fmap, if_neg h1, if_neg h2, if_neg h3, if_neg h4, if_neg h5, if_neg h6]
    · rename ¬ (lo : Int) < hi' => hlt
      rename Fr _ _ _ _ => F9
      have e : ns.countP (fun y => decide (y < x)) = lo := countP_at _ ns lo (by omega) (fun i hi => by simpa using h3 i hi) (fun i hi hil => by simpa using h4 i (by omega) hil)
      rw [e] at hret
      exact hret h₁ t1 _ F9.keep
theorem br_spec {w : World} {dp un : Nat} {fr : Option (List Env)} {gd : Option (List Code)} {E : Value → Shared → Prop} {s : Shared} {mg mb : Str → Option Value} {a : Addr} {vs : List Value} {ns : List Int} {x : Int} {t : Tok} {Q : Value → Shared → Prop}
    (X : (hd.heap_39 w.params).In s.heap) (T : TopRead hd.view_39 LO mg mb s.heap) (hroom : dp < recursionLimit)
    (hl : s.heap.IsList a vs.toArray) (hi : IntsAre vs ns) (hlen : ns.length ≤ 100) (hs : Sorted ns)
    (hret : ∀ h' tk tk', Ext s.heap h' → Q (.int (ns.countP fun y => decide (y ≤ x)) tk) { s with heap := h', toks := tk' }) :
    wpAny (model PR w) (At dp fr gd un) (call (.ref 40) [.ref a, .int x t]) Q E s := by
  refine' enter (binds := [(Str.ofString "a", .ref a), (Str.ofString "x", .int x t), (Str.ofString "lo", .int 0 284), (Str.ofString "hi", .none), (Str.ofString "key", .none)]) X T ?k6 ?k7 hroom ?k9 ?kB ?_ ?c2 ?c3 ?c4 ?c5
  walk_at "my cases2"
  intro h' F' N'
  repeat ((fail_if_success (with_reducible show wpAny _ _ (exec (Stmt.While _ _ _ _) _) _ _ _)); first | (k_unfold; try dsimp only) | walk1 | (dsimp only; walk1))
  rename Fr _ _ _ _ => F
  rename News _ _ _ _ => N
  refine While_inv (n₀ := ns.length) (fun n m news => news = [] ∧ ∃ (lo hi : Nat) (t1 t2 : Tok) (mv : Option Value), n = hi - lo ∧ lo ≤ hi ∧ hi ≤ ns.length ∧ (∀ i, i < lo → ¬ x < ns.getD i 0) ∧ (∀ i, hi ≤ i → i < ns.length → x < ns.getD i 0) ∧
      m = fmap [(Str.ofString "mid", mv), (Str.ofString "lo", some (.int lo t1)), (Str.ofString "hi", some (.int hi t2)), (Str.ofString "a", some (.ref a)), (Str.ofString "x", some (.int x t)), (Str.ofString "key", some .none)]) F N ?h0 ?turn
  case h0 =>
    refine ⟨rfl, 0, ns.length, _, _, _, rfl, Nat.zero_le _, Nat.le_refl _, fun i h => absurd h (Nat.not_lt_zero _), fun i h1 h2 => absurd h2 (by omega), fmap_eq ⟨rfl, rfl, rfl, rfl, rfl, rfl, trivial⟩ fun q hq => ?_⟩
    obtain ⟨h1, h2, h3, h4, h5, h6, _⟩ := hq
    simp only [if_neg h3, List.reverse_cons, List.reverse_nil, List.nil_append, List.cons_append, List.lookup_cons, beq_false_of_ne h2, beq_false_of_ne h3, beq_false_of_ne h4, beq_false_of_ne h5, beq_false_of_ne h6, List.lookup_nil]
  case turn =>
    rintro n m₁ news₁ h₁ tk₁ F₁ N₁ ⟨rfl, lo, hi', t1, t2, mv, hn, h1, h2, h3, h4, rfl⟩
    have hmid' : ((lo : Int) + hi').fdiv 2 = (((lo + hi') / 2 : Nat) : Int) := by rw [Int.fdiv_eq_ediv_of_nonneg _ (by decide)]; omega
    have hmid : (((lo : Int) + hi').fdiv 2).toNat = (lo + hi') / 2 := by rw [hmid']; omega
    k_steps
    · rename _ < List.getD _ _ _ => hc
      rename (lo : Int) < hi' => hlt
      rename Fr _ _ _ _ => F9
      rw [hmid] at hc
      refine WhileStep.intro (n' := (lo + hi') / 2 - lo) F9 News.nil (by omega) ⟨rfl, lo, (lo + hi') / 2, _, _, _, rfl, by omega, by omega, h3, fun i hi hil => Int.lt_of_lt_of_le hc (hs ((lo + hi') / 2) i hi hil), fmap_eq ⟨rfl, rfl, by rw [hmid']; rfl, rfl, rfl, rfl, trivial⟩ fun q hq => ?_⟩
      obtain ⟨h1, h2, h3, h4, h5, h6, _⟩ := hq
      simp only [fmap, if_neg h1, if_neg h2, if_neg h3, if_neg h4, if_neg h5, if_neg h6]
    · rename ¬ _ < List.getD _ _ _ => hc
      rename (lo : Int) < hi' => hlt
      rename Fr _ _ _ _ => F9
      rw [hmid] at hc
      refine WhileStep.intro (n' := hi' - ((lo + hi') / 2 + 1)) F9 News.nil (by omega) ⟨rfl, (lo + hi') / 2 + 1, hi', _, _, _, rfl, by omega, h2, fun i hi hh => hc (Int.lt_of_lt_of_le hh (hs i ((lo + hi') / 2) (by omega) (by omega))), h4, fmap_eq ⟨rfl, by rw [hmid']; rfl, rfl, rfl, rfl, rfl, trivial⟩ fun q hq => ?_⟩
      obtain ⟨h1, h2, h3, h4, h5, h6, _⟩ := hq
      simp only [fmap, if_neg h1, if_neg h2, if_neg h3, if_neg h4, if_neg h5, if_neg h6]
    · rename ¬ (lo : Int) < hi' => hlt
      rename Fr _ _ _ _ => F9
      have e : ns.countP (fun y => decide (y ≤ x)) = lo := countP_at _ ns lo (by omega) (fun i hi => by simpa using h3 i hi) (fun i hi hil => by simpa using h4 i (by omega) hil)
      rw [e] at hret
      exact hret h₁ t1 _ F9.keep
end Mine
end
section
open PySem PySem.W PyProof.Rows PySem.Calls
namespace Mine
set_option maxRecDepth 100000
set_option maxHeartbeats 8000000
theorem fillK5 : ∀ w : World, (hd.heap_39 w.params).lookup 3 = (hd.heap_39 w.params).lookup 3 ∧ PySem.Challenge.rw_pu0027_01 = PySem.Challenge.rw_pu0027_01 := by
  k_fill
  intro w; exact ⟨rfl, rfl⟩
/-- no list stands in the written part -/
theorem noList (P : Params) : ((hd.heap_39 P).all fun p => p.2.cls != .type "list") = true := by rfl
theorem lookup_mem {K : Frag} {b : Addr} {o : Obj} (h : K.lookup b = some o) : (b, o) ∈ K := by
  induction K with
  | nil => cases h
  | cons p r ih =>
    obtain ⟨k, v⟩ := p
    rw [List.lookup_cons] at h
    cases hb : b == k with
    | true =>
      rw [hb] at h
      cases h
      rw [beq_iff_eq.mp hb]; exact .head _
    | false => rw [hb] at h; exact .tail _ (ih h)
theorem hide_K {w : World} {h : Heap} {a : Addr} {o : Obj} (X : (hd.heap_39 w.params).In h) (ha : h.get? a = some o) (hc : o.cls = .type "list") : (hd.heap_39 w.params).In (h.hide a) := by
  intro b o' e
  have e1 := X b o' e
  have : b ≠ a := by
    rintro rfl
    rw [ha] at e1
    cases e1
    have := List.all_eq_true.mp (noList w.params) _ (lookup_mem e)
    rw [hc] at this
    simp at this
  rw [Heap.hide_ne _ this]; exact e1
theorem ns_hide {h : Heap} {a b : Addr} {o : Obj} {m : Str → Option Value} {vs : Array Value} {n : Nat} (N : h.Ns b m) (ha : h.get? a = some o) (hd : o.data = .seq vs n) : (h.hide a).Ns b m := by
  obtain ⟨o', es, ep, ho, hd', r⟩ := N
  have : b ≠ a := by
    rintro rfl
    rw [ha] at ho
    cases ho
    rw [hd] at hd'; cases hd'
  exact ⟨o', es, ep, by rw [Heap.hide_ne _ this]; exact ho, hd', r⟩
theorem hide_T {p : Program} {loose : List Str} {mg mb : Str → Option Value} {h : Heap} {a : Addr} {o : Obj} {vs : Array Value} {n : Nat} (T : TopRead p loose mg mb h) (ha : h.get? a = some o) (hd : o.data = .seq vs n) : TopRead p loose mg mb (h.hide a) := by
  obtain ⟨mc, e1, e2⟩ := T.nolimit
  exact ⟨ns_hide T.g ha hd, ns_hide T.b ha hd, ⟨mc, ns_hide e1 ha hd, e2⟩, T.builtins, T.free⟩
section
variable {w : World} {A : Around} {E : Value → Shared → Prop} {s : Shared} {mg mb : Str → Option Value}
/-- a call that may change one list -/
theorem enterH {a : Addr} {vs : Array Value} {n : Nat} {Q : Value → Shared → Prop} {name qual : Str} {params : Arguments} {body : List Stmt} {scope : Scope} {dV kV doc pm cdv ct oc : Value} {an od : Option Addr} {osl : Array (Option Value)} {f : Addr} {args : List Value} {binds : List (Str × Value)}
    (X : (hd.heap_39 w.params).In s.heap) (T : TopRead hd.view_39 LO mg mb s.heap) (ha : s.heap.get? a = some (listOf vs n))
    (ho : (hd.heap_39 w.params).lookup f = some ⟨oc, od, .func (fnOf name qual params body scope dV kV doc pm an cdv ct), osl⟩) (hcd : codeIn (hd.heap_39 w.params) cdv qual = true) (hroom : A.depth < recursionLimit)
    (hbind : BindsTo s (fnOf name qual params body scope dV kV doc pm an cdv ct) ⟨args, []⟩ binds) (hloc : ∀ y ∈ binds, scope.names.lookup y.1 = some .local)
    (h : ∀ h₁, Fr (s.heap.hide a) s.heap.objs.size h₁ (fun y => binds.reverse.lookup y) → News (s.heap.hide a) s.heap.objs.size h₁ [(a, listOf vs n)] →
      wpAny (model PR w) (A.deeper (envOf qual scope s.heap.objs.size f cdv)) (execs body (envOf qual scope s.heap.objs.size f cdv))
        (fun fl s' => Q (match fl with | .ret v => v | _ => .none) s')
        (fun _ _ => False)
        { s with heap := h₁, toks := s.toks + binds.length })
    (hco : scope.isCoroutine = false) (hgen : scope.isGenerator = false) (hk : scope.kind = .function)
    (hcell : ∀ x ∈ scope.names, x.2 ≠ .cell) : wpAny (model PR w) A (call (.ref f) args) Q E s := by
  refine wpAny_call ?_
  refine codeAny_call_def (fd := fnOf name qual params body scope dV kV doc pm an cdv ct) (body := body) (binds := binds) hroom (X _ _ ho) rfl T.nolimit (codeRec_of X hcd) rfl hbind hcell hloc (fun h₁ hns hk₁ => ?_) hco hgen hk
  refine wpAny_mono (h h₁ ⟨hns, fun b o e => hk₁ b o (Heap.of_hide e), by rw [Heap.hide_size]; exact Nat.le_refl _⟩ fun p hp => ?_) (fun _ _ x => x) (fun _ _ x => x.elim)
  rw [List.mem_singleton.mp hp]
  exact ⟨hk₁ _ _ ha, Nat.ne_of_lt (Heap.lt_size ha), Heap.hide_self _ _⟩
end
local macro_rules | `(tactic| walk_at "my cases2") => `(tactic| ((case k6 => k_is); (case k7 => k_is); (case k9 => (refine' binds_K2 (by assumption) ?a1 ?a2 ?a3 ?a4 ?a5 ?a6 ?a7; (case a1 => exact rfl); (case a2 => k_is); (case a3 => exact rfl); (case a4 => exact rfl); (case a5 => exact rfl); (case a6 => k_is); (case a7 => exact rfl))); (case c5 => decide); (case kB => exact locs rfl); (case c2 => exact rfl); (case c3 => exact rfl); (case c4 => exact rfl)))
theorem is_spec {w : World} {dp un : Nat} {fr : Option (List Env)} {gd : Option (List Code)} {E : Value → Shared → Prop} {s : Shared} {mg mb : Str → Option Value} {a : Addr} {vs : List Value} {n : Nat} {ns : List Int} {x : Int} {t : Tok} {Q : Value → Shared → Prop}
    (X : (hd.heap_39 w.params).In s.heap) (T : TopRead hd.view_39 LO mg mb s.heap) (hroom : dp + 1 < recursionLimit)
    (hl : s.heap.get? a = some (listOf vs.toArray n)) (hi : IntsAre vs ns) (hlen : ns.length ≤ 100) (hs : Sorted ns)
    (hret : ∀ h' tk', h'.get? a = some (listOf (kl_ins vs (ns.countP fun y => decide (y < x)) (.int x t)).toArray (n + 1)) → Heap.ExtBut a s.heap h' → Q .none { s with heap := h', toks := tk' }) :
    wpAny (model PR w) (At dp fr gd un) (call (.ref 49) [.ref a, .int x t]) Q E s := by
  refine' enterH (binds := [(Str.ofString "a", .ref a), (Str.ofString "x", .int x t), (Str.ofString "lo", .int 0 298), (Str.ofString "hi", .none), (Str.ofString "key", .none)]) X T hl ?k6 ?k7 (by show dp < _; omega) ?k9 ?kB ?_ ?c2 ?c3 ?c4 ?c5
  walk_at "my cases2"
  intro h' F' N'
  have X' := hide_K X hl rfl
  have T' := hide_T T hl rfl
  k_steps
  have hla : h'.IsList a vs.toArray := ⟨_, (N' _ (.head _)).1, rfl, _, rfl⟩
  refine bl_spec4 (Frag.In.keeps X' F'.keep) (TopRead.keeps T' F'.keep) hroom hla hi hlen hs fun h₂ tk₂ tk₂' hx₂ => ?_
  have F2 := Fr.keeps F' hx₂
  have N2 := News.grown N' hx₂
  clear F' N'
  dsimp only
  k_steps
  rename Fr _ _ _ _ => F3
  rename News _ _ _ _ => N3
  have hcl : ns.countP (fun y => decide (y < x)) ≤ 100 := Nat.le_trans List.countP_le_length hlen
  have hvl : vs.length ≤ 100 := by rw [IntsAre.length hi]; exact hlen
  refine kl_insert F3 N3 ?f rfl (.head fun _ hp => nomatch hp) ?z fun h₄ F4 N4 => ?_
  case f =>
    unfold Builtin.List.listFitsIndex
    simp only [Bool.and_eq_true, decide_eq_true_eq]
    omega
  case z => show vs.length ≤ _; unfold sizeLine; omega
  k_steps
  rename Fr _ _ _ _ => F5
  rename News _ _ _ _ => N5
  refine hret _ _ (N5 _ (.head _)).1 fun b o hb e => F5.keep b o (by rw [Heap.hide_ne _ hb]; exact e)
end Mine
end
section
open PySem PySem.W PyProof.Rows PySem.Calls
namespace Mine
set_option maxRecDepth 100000
set_option maxHeartbeats 8000000
theorem fillK6 : ∀ w : World, (hd.heap_39 w.params).lookup 3 = (hd.heap_39 w.params).lookup 3 ∧ PySem.Challenge.rw_pu0027_01 = PySem.Challenge.rw_pu0027_01 := by
  k_fill
  intro w; exact ⟨rfl, rfl⟩
/-- one more count, kept if it is new -/
def stepU (rs : List Int) (c : Int) : List Int :=
  if rs.countP (fun y => decide (y < c)) = rs.countP (fun y => decide (y ≤ c)) then rs.take (rs.countP fun y => decide (y < c)) ++ c :: rs.drop (rs.countP fun y => decide (y < c)) else rs
def unlike (cs : List Int) : List Int := cs.foldl stepU []
theorem Fr.extBut {h₀ h h' : Heap} {L D : Addr} {m : Str → Option Value} (F : Fr h₀ L h m) (hD : D ≠ L) (h0 : h₀.get? D = none) (hx : Heap.ExtBut D h h') : Fr h₀ L h' m := by
  obtain ⟨o, es, ep, ho, hr⟩ := F.ns
  refine ⟨⟨o, es, ep, hx _ _ (Ne.symm hD) ho, hr⟩, fun b o' e => hx b o' ?_ (F.keep b o' e), F.above⟩
  rintro rfl; rw [h0] at e; cases e
theorem sorted_pw {ns : List Int} : Sorted ns ↔ ns.Pairwise (· ≤ ·) := by
  rw [List.pairwise_iff_getElem]
  constructor
  · intro h i j hi hj hij
    have := h i j (Nat.le_of_lt hij) hj
    simpa [List.getD, hi, hj] using this
  · intro h i j hij hj
    rcases Nat.lt_or_eq_of_le hij with hlt | rfl
    · have := h i j (by omega) hj hlt
      simpa [List.getD, hj, show i < ns.length by omega] using this
    · exact Int.le_refl _
theorem countP_split {rs : List Int} (h : rs.Pairwise (· ≤ ·)) (c : Int) : (∀ y ∈ rs.take (rs.countP fun y => decide (y < c)), y < c) ∧ ∀ y ∈ rs.drop (rs.countP fun y => decide (y < c)), c ≤ y := by
  induction rs with
  | nil => simp
  | cons a r ih =>
    rw [List.pairwise_cons] at h
    by_cases hac : a < c
    · rw [List.countP_cons_of_pos (by simpa using hac)]
      refine ⟨fun y hy => ?_, fun y hy => ?_⟩
      · rw [List.take_succ_cons] at hy
        rcases List.mem_cons.mp hy with rfl | hy
        · exact hac
        · exact (ih h.2).1 y hy
      · rw [List.drop_succ_cons] at hy
        exact (ih h.2).2 y hy
    · have e : (a :: r).countP (fun y => decide (y < c)) = 0 := List.countP_eq_zero.mpr fun y hy => by
        rcases List.mem_cons.mp hy with rfl | hy
        · simpa using hac
        · have := h.1 y hy
          simp; omega
      rw [e]
      refine ⟨fun y hy => (by simp at hy), fun y hy => ?_⟩
      rcases List.mem_cons.mp hy with rfl | hy
      · omega
      · have := h.1 y hy; omega
theorem stepU_sorted {rs : List Int} (h : rs.Pairwise (· ≤ ·)) (c : Int) : (stepU rs c).Pairwise (· ≤ ·) := by
  unfold stepU
  split
  · obtain ⟨h1, h2⟩ := countP_split h c
    refine List.pairwise_append.mpr ⟨h.sublist (List.take_sublist _ _), List.pairwise_cons.mpr ⟨h2, h.sublist (List.drop_sublist _ _)⟩, fun a ha b hb => ?_⟩
    have := h1 a ha
    rcases List.mem_cons.mp hb with rfl | hb
    · omega
    · have := h2 b hb; omega
  · exact h
theorem stepU_length (rs : List Int) (c : Int) : (stepU rs c).length ≤ rs.length + 1 := by
  unfold stepU
  split
  · simp; omega
  · omega
theorem intsAre_take : ∀ {vs : List Value} {ns : List Int} (k : Nat), IntsAre vs ns → IntsAre (vs.take k) (ns.take k)
  | _, _, 0, _ => .nil
  | _, _, _ + 1, .nil => .nil
  | _, _, k + 1, .cons n t h => .cons n t (intsAre_take k h)
theorem intsAre_drop : ∀ {vs : List Value} {ns : List Int} (k : Nat), IntsAre vs ns → IntsAre (vs.drop k) (ns.drop k)
  | _, _, 0, h => h
  | _, _, _ + 1, .nil => .nil
  | _, _, k + 1, .cons _ _ h => intsAre_drop k h
theorem intsAre_append : ∀ {vs vs' : List Value} {ns ns' : List Int}, IntsAre vs ns → IntsAre vs' ns' → IntsAre (vs ++ vs') (ns ++ ns')
  | _, _, _, _, .nil, h => h
  | _, _, _, _, .cons n t h, h' => .cons n t (intsAre_append h h')
theorem intsAre_ins {vs : List Value} {ns : List Int} (h : IntsAre vs ns) (k : Nat) (hk : k ≤ ns.length) (c : Int) (t : Tok) : IntsAre (kl_ins vs k (.int c t)) (ns.take k ++ c :: ns.drop k) := by
  have hl := IntsAre.length h
  have e : kl_ins vs k (.int c t) = vs.take k ++ .int c t :: vs.drop k := by
    unfold kl_ins
    rw [if_neg (by omega), show min (k : Int).toNat vs.length = k by omega]
  rw [e]
  exact intsAre_append (intsAre_take k h) (.cons c t (intsAre_drop k h))
local macro_rules | `(tactic| walk_at "my cases") => `(tactic| ((case k6 => k_is); (case k7 => k_is); (case k9 => exact BindsTo.of_eq rfl); (case c5 => decide); (case kB => exact locs rfl); (case c2 => exact rfl); (case c3 => exact rfl); (case c4 => exact rfl)))
theorem un_spec {w : World} {dp un : Nat} {fr : Option (List Env)} {gd : Option (List Code)} {E : Value → Shared → Prop} {s : Shared} {mg mb : Str → Option Value} {a : Addr} {vs : List Value} {cs : List Int} {Q : Value → Shared → Prop}
    (X : (hd.heap_39 w.params).In s.heap) (T : TopRead hd.view_39 LO mg mb s.heap) (hroom : dp + 2 < recursionLimit)
    (hl : s.heap.IsList a vs.toArray) (hi : IntsAre vs cs) (hlen : cs.length ≤ 10)
    (hret : ∀ D ys n h' tk', h'.get? D = some (listOf (ys : List Value).toArray n) → IntsAre ys (unlike cs) → s.heap.get? D = none → Ext s.heap h' → Q (.ref D) { s with heap := h', toks := tk' }) :
    wpAny (model PR w) (At dp fr gd un) (call (.ref 101) [.ref a]) Q E s := by
  refine' enter (binds := [(Str.ofString "counts", .ref a)]) X T ?k6 ?k7 (by show dp < _; omega) ?k9 ?kB ?_ ?c2 ?c3 ?c4 ?c5
  walk_at "my cases"
  intro h' F' N'
  repeat ((fail_if_success (show wpAny _ _ (pyIter _) _ _ _)); first | (k_unfold; try dsimp only) | walk1 | (dsimp only; walk1))
  rename Fr _ _ _ _ => F
  rename News _ _ _ _ => N
  rename IntsAre _ _ => hi
  have hD := N _ (.head _)
  have hvs : vs.length = cs.length := IntsAre.length hi
  refine iter_lst (l := a) (fun i m news => ∃ (ys : List Value) (n : Nat) (cv : Option Value) (D : Addr), news = [(D, listOf ys.toArray n)] ∧ IntsAre ys ((cs.take i).foldl stepU []) ∧ ((cs.take i).foldl stepU []).Pairwise (· ≤ ·) ∧ ((cs.take i).foldl stepU []).length ≤ i ∧
    m = fmap [(Str.ofString "count", cv), (Str.ofString "row", some (.ref D)), (Str.ofString "counts", some (.ref a))]) rfl (hl.at fun o e => F.keep _ o e) ?ha F N ?h0 ?turn ?done
  case ha =>
    obtain ⟨o, ho, _⟩ := hl
    exact Nat.ne_of_lt (Heap.lt_size ho)
  case h0 =>
    refine ⟨[], 0, none, _, rfl, ?_, .nil, Nat.le_refl _, fmap_eq ⟨rfl, rfl, rfl, trivial⟩ fun q hq => ?_⟩
    · exact .nil
    · obtain ⟨h1, h2, h3, _⟩ := hq
      simp only [if_neg h2, List.reverse_cons, List.reverse_nil, List.nil_append, List.lookup_cons, beq_false_of_ne h3, List.lookup_nil]
  case turn =>
    rintro i v m₁ news₁ h tk own hv ⟨ys, n, cv, D, rfl, hys, hpw, hln, rfl⟩ hne hown F₁ N₁
    have : ∃ c t, v = .int c t ∧ cs[i]? = some c := by
      rw [List.getElem?_toArray] at hv
      have hil : i < cs.length := by rw [← hvs]; exact (List.getElem?_eq_some_iff.mp hv).1
      obtain ⟨t, ht⟩ := hi.get i cs[i] (by simp [hil])
      rw [ht] at hv
      exact ⟨cs[i], t, (Option.some.inj hv).symm, by simp [hil]⟩
    obtain ⟨c, t, rfl, hc⟩ := this
    have hil : i < cs.length := (List.getElem?_eq_some_iff.mp hc).1
    have hstep : (cs.take (i + 1)).foldl stepU [] = stepU ((cs.take i).foldl stepU []) c := by
      rw [List.take_add_one, hc]; simp
    have hpw' := stepU_sorted hpw c
    have hln' := stepU_length ((cs.take i).foldl stepU []) c
    generalize hrs : (cs.take i).foldl stepU [] = rs at *
    have hND := N₁ _ (List.mem_append_right _ (.head _))
    k_steps
    refine bl_spec (Frag.In.keeps X F₁.keep) (TopRead.keeps T F₁.keep) (by show dp + 1 < _; omega) ⟨_, hND.1, rfl, _, rfl⟩ hys (by omega) (sorted_pw.mpr hpw) fun h₂ tk₂ tk₂' hx₂ => ?_
    have F2 := Fr.keeps F₁ hx₂
    have N2 := News.grown N₁ hx₂
    dsimp only
    k_steps
    refine br_spec (Frag.In.keeps X F2.keep) (TopRead.keeps T F2.keep) (by show dp + 1 < _; omega) ⟨_, (N2 _ (List.mem_append_right _ (.head _))).1, rfl, _, rfl⟩ hys (by omega) (sorted_pw.mpr hpw) fun h₃ tk₃ tk₃' hx₃ => ?_
    have F3 := Fr.keeps F2 hx₃
    have N3 := News.grown N2 hx₃
    dsimp only
    k_steps
    · rename _ = _ => hq
      refine is_spec (Frag.In.keeps X F3.keep) (TopRead.keeps T F3.keep) (by show dp + 1 + 1 < _; omega) (N3 _ (List.mem_append_right _ (.head _))).1 hys (by omega) (sorted_pw.mpr hpw) fun h₄ tk₄ hnew hx₄ => ?_
      have hD0 := (N3 _ (List.mem_append_right _ (.head _))).2.2
      have hDL := (N3 _ (List.mem_append_right _ (.head _))).2.1
      have F4 := Fr.extBut F3 hDL hD0 hx₄
      have N4 : News s.heap s.heap.objs.size h₄ (own ++ [(D, listOf (kl_ins ys (rs.countP fun y => decide (y < c)) (.int c t)).toArray (n + 1))]) := fun p hp => by
        rcases List.mem_append.mp hp with h1 | h1
        · have hpD : p.1 ≠ D := by
            rcases hown p h1 with e | e
            · rw [e]; exact fun e' => hne (D, listOf ys.toArray n) (.head _) e'.symm
            · rw [e]; rintro rfl
              obtain ⟨o, ho, _⟩ := hl
              rw [hD0] at ho; cases ho
          have := N3 p (List.mem_append_left _ h1)
          exact ⟨hx₄ _ _ hpD this.1, this.2⟩
        · rw [List.mem_singleton.mp h1]
          exact ⟨hnew, hDL, hD0⟩
      dsimp only
      k_steps
      rename Fr _ _ _ _ => F9
      rename News _ _ _ _ => N9
      have hcl : (rs.countP fun y => decide (y < c)) ≤ rs.length := List.countP_le_length
      have hsU : stepU rs c = rs.take (rs.countP fun y => decide (y < c)) ++ c :: rs.drop (rs.countP fun y => decide (y < c)) := by
        unfold stepU
        rw [if_pos (by omega)]
      refine LoopStepU.intro F9 N9 (fun p hp e => ?_) ⟨_, _, _, D, rfl, ?_, ?_, ?_, fmap_eq ⟨rfl, rfl, rfl, trivial⟩ fun q hq => ?_⟩
      · rw [List.mem_singleton.mp hp] at e
        exact hne (D, listOf ys.toArray n) (.head _) (List.mem_singleton.mp e)
      · rw [hstep, hsU]; exact intsAre_ins hys _ hcl c t
      · rw [hstep]; exact hpw'
      · rw [hstep]; omega
      · obtain ⟨h1, h2, h3, _⟩ := hq
        simp only [fmap, if_neg h1, if_neg h2, if_neg h3]
    · rename ¬ _ => hq
      have hsU : stepU rs c = rs := by
        unfold stepU
        rw [if_neg (by omega)]
      rename Fr _ _ _ _ => F9
      rename News _ _ _ _ => N9
      refine LoopStepU.intro F9 N9 (fun p hp e => hne p hp (List.mem_singleton.mp e)) ⟨_, _, _, D, rfl, by rw [hstep, hsU]; exact hys, by rw [hstep]; exact hpw', by rw [hstep]; omega, fmap_eq ⟨rfl, rfl, rfl, trivial⟩ fun q hq => ?_⟩
      obtain ⟨h1, h2, h3, _⟩ := hq
      simp only [fmap, if_neg h1, if_neg h2, if_neg h3]
  case done =>
    rintro h₂ tk₂ m' news' F₂ N₂ ⟨ys, n, cv, D, rfl, hys, hpw, hln, rfl⟩
    k_steps
    rw [List.size_toArray, hvs, List.take_length] at hys
    exact hret D ys n h₂ _ (N₂ _ (.head _)).1 hys (N₂ _ (.head _)).2.2 F₂.keep
end Mine
end
section
open PySem PySem.W PyProof.Rows PySem.Calls
namespace Mine
set_option maxRecDepth 100000
set_option maxHeartbeats 8000000
theorem fillK7 : ∀ w : World, (hd.heap_39 w.params).lookup 3 = (hd.heap_39 w.params).lookup 3 ∧ PySem.Challenge.rw_pu0027_01 = PySem.Challenge.rw_pu0027_01 := by
  k_fill
  intro w; exact ⟨rfl, rfl⟩
/-- a list of pairs of ints stands at a -/
structure PairsAt (h : Heap) (a : Addr) (sp : List (Int × Int)) : Prop where
  ex : ∃ vs : List Value, h.IsList a vs.toArray ∧ vs.length = sp.length ∧ ∀ (i : Nat) (p : Int × Int), sp[i]? = some p → ∃ (T : Addr) (t1 t2 : Tok), vs[i]? = some (Value.ref T) ∧ IsTup h T #[Value.int p.1 t1, Value.int p.2 t2]
/-- a square of bools stands at a -/
structure SquareAt (h : Heap) (a : Addr) (n : Nat) (f : Nat → Nat → Bool) : Prop where
  ex : ∃ vs : List Value, h.IsList a vs.toArray ∧ vs.length = n ∧ ∀ i : Nat, i < n → ∃ R : Addr, vs[i]? = some (Value.ref R) ∧ h.PlainList R ((List.range n).map fun j => Value.bool (f i j)).toArray
theorem isTup_ext {h h' : Heap} {T : Addr} {vs : Array Value} (x : IsTup h T vs) (hx : Ext h h') : IsTup h' T vs := let ⟨o, ho, r⟩ := x; ⟨o, hx _ _ ho, r⟩
theorem PairsAt.ext {h h' : Heap} {a : Addr} {sp : List (Int × Int)} (x : PairsAt h a sp) (hx : Ext h h') : PairsAt h' a sp := by
  obtain ⟨vs, h1, h2, h3⟩ := x.ex
  refine ⟨vs, h1.at fun o e => hx _ o e, h2, fun i p hp => ?_⟩
  obtain ⟨T, t1, t2, e, ht⟩ := h3 i p hp
  exact ⟨T, t1, t2, e, isTup_ext ht hx⟩
theorem SquareAt.ext {h h' : Heap} {a : Addr} {n : Nat} {f : Nat → Nat → Bool} (x : SquareAt h a n f) (hx : Ext h h') : SquareAt h' a n f := by
  obtain ⟨vs, h1, h2, h3⟩ := x.ex
  refine ⟨vs, h1.at fun o e => hx _ o e, h2, fun i hi => ?_⟩
  obtain ⟨R, e, hr⟩ := h3 i hi
  exact ⟨R, e, hr.at fun o e => hx _ o e⟩
section
variable {prog : Program} {w : World} {A : Around} {E : Value → Shared → Prop} {s : Shared}
theorem item_at {value slice : PySem.Expr} {l : Addr} {vs : Array Value} {k : Int} {j : Nat} {u : Tok} {v : Value} {Q : Value → Shared → Prop}
    (hl : s.heap.IsList l vs) (hk : k = (j : Int)) (hhi : j < 1000) (hx : vs[j]? = some v) (h : Q v s)
    (hs : subscripted slice false (.ref l) (.int k u) = operate [.ref l, .int k u] (getItem (.ref l) (.int k u)) := by with_unfolding_all rfl) :
    wpAny (model prog w) A (subscriptTail value slice (.ref l) (.int k u)) Q E s :=
  tail_any hl.typeIs slot_list_getitem.lookup (wpAny_getItem_list hl (by omega) (by omega) (by rw [hk]; simpa using hx) h) hs
theorem pair_fst {value slice : PySem.Expr} {l : Addr} {x y : Value} {u : Tok} {Q : Value → Shared → Prop}
    (hl : IsTup s.heap l #[x, y]) (h : Q x s)
    (hs : subscripted slice false (.ref l) (.int 0 u) = operate [.ref l, .int 0 u] (getItem (.ref l) (.int 0 u)) := by with_unfolding_all rfl) :
    wpAny (model prog w) A (subscriptTail value slice (.ref l) (.int 0 u)) Q E s :=
  item_tupleT (l := [x, y]) (j := 0) hl (by decide) (by decide) rfl rfl h hs
theorem pair_snd {value slice : PySem.Expr} {l : Addr} {x y : Value} {u : Tok} {Q : Value → Shared → Prop}
    (hl : IsTup s.heap l #[x, y]) (h : Q y s)
    (hs : subscripted slice false (.ref l) (.int 1 u) = operate [.ref l, .int 1 u] (getItem (.ref l) (.int 1 u)) := by with_unfolding_all rfl) :
    wpAny (model prog w) A (subscriptTail value slice (.ref l) (.int 1 u)) Q E s :=
  item_tupleT (l := [x, y]) (j := 1) hl (by decide) (by decide) rfl rfl h hs
end
theorem small11 : ∀ n < 11, Builtin.Range.small 0 ((n : Nat) : Int) 1 = true := by decide
local macro_rules | `(tactic| walk_at "my cases") => `(tactic| ((case k6 => k_is); (case k7 => k_is); (case k9 => exact BindsTo.of_eq rfl); (case c5 => decide); (case kB => exact locs rfl); (case c2 => exact rfl); (case c3 => exact rfl); (case c4 => exact rfl)))
local macro_rules | `(tactic| walk_at "to iter") => `(tactic| repeat ((fail_if_success (show wpAny _ _ (pyIter _) _ _ _)); first | (k_unfold; try dsimp only) | walk1 | (dsimp only; walk1)))
local macro_rules | `(tactic| walk_at "to tail") => `(tactic| repeat ((fail_if_success (show wpAny _ _ (subscriptTail _ _ (Value.ref _) _) _ _ _)); first | (k_unfold; try dsimp only) | walk1 | (dsimp only; walk1)))
theorem same_spec {w : World} {dp un : Nat} {fr : Option (List Env)} {gd : Option (List Code)} {E : Value → Shared → Prop} {s : Shared} {mg mb : Str → Option Value} {a b : Addr} {n : Nat} {f : Nat → Nat → Bool} {sp : List (Int × Int)} {Q : Value → Shared → Prop}
    (X : (hd.heap_39 w.params).In s.heap) (T : TopRead hd.view_39 LO mg mb s.heap) (hroom : dp < recursionLimit)
    (hA : SquareAt s.heap a n f) (hS : PairsAt s.heap b sp) (hn : sp.length = n) (hn10 : n ≤ 10)
    (hall : ∀ (i j : Nat) (p q : Int × Int), sp[i]? = some p → sp[j]? = some q → f i j = decide (p.2 ≤ q.1))
    (hret : ∀ h' tk', Ext s.heap h' → Q (.bool true) { s with heap := h', toks := tk' }) :
    wpAny (model PR w) (At dp fr gd un) (call (.ref 118) [.ref a, .ref b]) Q E s := by
  refine' enter (binds := [(Str.ofString "answers", .ref a), (Str.ofString "spans", .ref b)]) X T ?k6 ?k7 hroom ?k9 ?kB ?_ ?c2 ?c3 ?c4 ?c5
  walk_at "my cases"
  intro h' F' N'
  obtain ⟨va, hla, hva, hra⟩ := hA.ex
  obtain ⟨vb, hlb, hvb, hrb⟩ := hS.ex
  have hsz : vb.toArray.size = n := by rw [List.size_toArray, hvb, hn]
  walk_at "to iter"
  rename IsRange _ _ _ _ _ _ _ _ => R
  rw [hsz] at R
  rename Fr _ _ _ _ => F2
  rename News _ _ _ _ => N2
  have hrs : Builtin.Range.rangeSize 0 (n : Int) 1 = (n : Int) := by
    unfold Builtin.Range.rangeSize
    simp only [show (1 : Int) > 0 from by decide, if_true, Int.ediv_one]
    split <;> omega
  have hsm : Builtin.Range.small 0 (n : Int) 1 = true := small11 n (by omega)
  refine iter_rng (fun i m news => news = [] ∧ ∃ (vi vj : Option Value), m = fmap [(Str.ofString "i", vi), (Str.ofString "j", vj), (Str.ofString "answers", some (.ref a)), (Str.ofString "spans", some (.ref b))]) n rfl R hsm hrs F2 N2 ?h0 ?turn ?done
  case h0 =>
    refine ⟨rfl, none, none, fmap_eq ⟨rfl, rfl, rfl, rfl, trivial⟩ fun q hq => ?_⟩
    obtain ⟨h1, h2, h3, h4, _⟩ := hq
    simp only [List.reverse_cons, List.reverse_nil, List.nil_append, List.cons_append, List.lookup_cons, beq_false_of_ne h3, beq_false_of_ne h4, List.lookup_nil]
  case turn =>
    rintro i t m₁ news₁ h tk own hi ⟨rfl, vi, vj, rfl⟩ hne hown F₁ N₁
    walk_at "to iter"
    rename IsRange _ _ _ _ _ _ _ _ => R3
    rw [hsz] at R3
    rename Fr _ _ _ _ => F3
    rename News _ _ _ _ => N3
    refine iter_rng (fun j m news => news = own ++ [] ∧ ∃ (vj : Option Value), m = fmap [(Str.ofString "i", some (.int (0 + i) t)), (Str.ofString "j", vj), (Str.ofString "answers", some (.ref a)), (Str.ofString "spans", some (.ref b))]) n rfl R3 hsm hrs F3 N3 ?h02 ?turn2 ?done2
    case h02 =>
      refine ⟨rfl, vj, fmap_eq ⟨rfl, rfl, rfl, rfl, trivial⟩ fun q hq => ?_⟩
      obtain ⟨h1, h2, h3, h4, _⟩ := hq
      simp only [fmap, if_neg h1, if_neg h2, if_neg h3, if_neg h4]
    case turn2 =>
      rintro j t2 m₂ news₂ h2 tk2 own2 hj ⟨rfl, vj2, rfl⟩ hne2 hown2 F₄ N₄
      obtain ⟨R, hR1, hR2'⟩ := hra i hi
      have hR2 := hR2'.isList
      clear hR2'
      have hpi : ∃ p, sp[i]? = some p := ⟨sp[i]'(by omega), by simp [show i < sp.length by omega]⟩
      have hpj : ∃ p, sp[j]? = some p := ⟨sp[j]'(by omega), by simp [show j < sp.length by omega]⟩
      obtain ⟨p, hp⟩ := hpi
      obtain ⟨q, hq⟩ := hpj
      obtain ⟨T1, t11, t12, hT1, hT1'⟩ := hrb i p hp
      obtain ⟨T2, t21, t22, hT2, hT2'⟩ := hrb j q hq
      have hf := hall i j p q hp hq
      have hrow : ((List.range n).map fun j => Value.bool (f i j)).toArray[j]? = some (.bool (f i j)) := by simp [hj]
      generalize ((List.range n).map fun j => Value.bool (f i j)).toArray = row at hR2 hrow
      clear hall hra hrb hA hS
      walk_at "to tail"
      refine item_at (j := i) (hla.at fun o e => F₄.keep _ o e) (by omega) (by omega) (by simpa using hR1) ?_
      walk_at "to tail"
      refine item_at (j := j) (hR2.at fun o e => F₄.keep _ o e) (by omega) (by omega) hrow ?_
      walk_at "to tail"
      refine item_at (j := i) (hlb.at fun o e => F₄.keep _ o e) (by omega) (by omega) (by simpa using hT1) ?_
      walk_at "to tail"
      refine pair_snd (isTup_ext hT1' F₄.keep) ?_
      walk_at "to tail"
      refine item_at (j := j) (hlb.at fun o e => F₄.keep _ o e) (by omega) (by omega) (by simpa using hT2) ?_
      walk_at "to tail"
      refine pair_fst (isTup_ext hT2' F₄.keep) ?_
      walk1
      rw [hf]
      refine wpAny_isNot_self rfl ?_
      repeat ((fail_if_success (show LoopStepU _ _ _ _ _ _ _ _)); first | (k_unfold; try dsimp only) | walk1 | (dsimp only; walk1))
      refine LoopStepU.intro F₄ N₄ (fun p hp e => hne2 p hp (List.mem_singleton.mp e)) ⟨rfl, some (.int (0 + j) t2), fmap_eq ⟨rfl, rfl, rfl, rfl, trivial⟩ fun q hq => ?_⟩
      obtain ⟨h1, h2, h3, h4, _⟩ := hq
      simp only [fmap, if_neg h1, if_neg h2, if_neg h3, if_neg h4]
    case done2 =>
      rintro h₂ tk₂ m' news' F₂ N₂ ⟨rfl, vj2, rfl⟩
      k_steps
      rename Fr _ _ _ _ => F9
      rename News _ _ _ _ => N9
      refine LoopStepU.intro F9 N9 (fun p hp => nomatch hp) ⟨rfl, _, _, rfl⟩
  case done =>
    rintro h₂ tk₂ m' news' F₂ N₂ ⟨rfl, vi, vj, rfl⟩
    k_steps
    exact hret h₂ _ F₂.keep
end Mine
end
section
open PySem PySem.W PyProof.Rows PySem.Calls
namespace Mine
set_option maxRecDepth 100000
section
variable {prog : Program} {w : World} {A : Around} {R : Result → Shared → Prop} {s : Shared}
/-- all but one thing stays, and that one stays a frame -/
def KeepsBut (C : Addr) (s s' : Shared) : Prop := ∃ h' tk, s' = { s with heap := h', toks := tk } ∧ (∀ b o, b ≠ C → s.heap.get? b = some o → h'.get? b = some o) ∧ ∃ m, h'.Ns C m
/-- a comprehension's loop whose elements may be new things -/
theorem comp_loop {elt target iter : PySem.Expr} {scope : Scope} {pos : Pos} {I D : Addr} {fp wr : List Addr} {n : Nat} {P : Nat → Value → Prop} {St : Nat → Heap → Prop} {cenv : Env}
    (C : Addr) (Mu : List Addr) (Live : Heap → Prop) (Bd : Value → Heap → Prop) (G : Nat → Value → List (Addr × Obj) → Prop)
    (W : Walks prog w A I fp wr n P St) (hn : n ≤ 1000) (ht : ∀ v, letOwnedTupleGo target (.ref I) v = pure ())
    (hwl : ∀ i h, St i h → ∀ b ∈ wr, ∃ o, h.get? b = some o)
    (hMl : ∀ h, Live h → ∀ b ∈ Mu, ∃ o, h.get? b = some o)
    (hLive : ∀ h h', Live h → (∀ b ∈ Mu, b ≠ C → ∀ o, h.get? b = some o → h'.get? b = some o) → (∃ m, h'.Ns C m) → Live h')
    (hNs : ∀ h, Live h → ∃ m, h.Ns C m) (hCM : C ∈ Mu)
    (hbind : ∀ v (s' : Shared) (Q : Unit → Shared → Prop) E', Live s'.heap → (∀ h' tk, Live h' → Bd v h' → (∀ b o, b ∉ Mu → s'.heap.get? b = some o → h'.get? b = some o) → Q () { s' with heap := h', toks := tk }) → wpAny (model prog w) A (assign target cenv v) Q E' s')
    (hDM : D ∉ Mu) (hDf : D ∉ fp) (hMf : ∀ b ∈ Mu, b ∉ fp) (hst : St 0 s.heap) (hacc : s.heap.PlainList D #[]) (hlive : Live s.heap)
    (helt : ∀ i v (s₃ : Shared) E', i < n → P i v → Bd v s₃.heap → (∃ h tk, s₃ = { s with heap := h, toks := tk }) → (∀ b o, b ∉ wr → b ∉ Mu → b ≠ D → s.heap.get? b = some o → s₃.heap.get? b = some o) →
      wpAny (model prog w) A (eval elt cenv) (fun y s₄ => ∃ sup, G i y sup ∧ (∀ p ∈ sup, s₃.heap.get? p.1 = none ∧ s₄.heap.get? p.1 = some p.2) ∧ KeepsBut C s₃ s₄) E' s₃)
    (hR : ∀ h' tk (rs : List (Value × List (Addr × Obj))), h'.PlainList D (rs.map (·.1)).toArray → rs.length = n → (∀ i r, rs[i]? = some r → G i r.1 r.2) →
      (∀ r ∈ rs, ∀ p ∈ r.2, h'.get? p.1 = some p.2 ∧ s.heap.get? p.1 = none ∧ p.1 ≠ D ∧ p.1 ∉ Mu) → Live h' → (∀ b o, b ∉ wr → b ∉ Mu → b ≠ D → s.heap.get? b = some o → h'.get? b = some o) → R (.ok .next) { s with heap := h', toks := tk }) :
    codeAny (model prog w) A (.compLoop (.ListComp elt [⟨target, iter, [], 0⟩] scope pos) 0 (.ref I) (.ref D) cenv) R s := by
  have hDw : D ∉ wr := fun h => hDf (W.sub _ h)
  have hMw : ∀ b ∈ Mu, b ∉ wr := fun b hb h => hMf b hb (W.sub _ h)
  refine codeAny_compLoop_list
    (fun k s' => ∃ h' tk, ∃ rs : List (Value × List (Addr × Obj)), s' = { s with heap := h', toks := tk } ∧ St rs.length h' ∧ h'.PlainList D (rs.map (·.1)).toArray ∧ Live h' ∧ (∀ i r, rs[i]? = some r → G i r.1 r.2) ∧
      (∀ r ∈ rs, ∀ p ∈ r.2, h'.get? p.1 = some p.2 ∧ s.heap.get? p.1 = none ∧ p.1 ≠ D ∧ p.1 ∉ Mu ∧ p.1 ∉ wr) ∧ rs.length ≤ n ∧ k = n + 1 - rs.length ∧
      (∀ b o, b ∉ wr → b ∉ Mu → b ≠ D → s.heap.get? b = some o → h'.get? b = some o)) ?_ (n + 1)
    ⟨s.heap, s.toks, [], rfl, hst, hacc, hlive, (fun i r h => by simp at h), (fun r h => nomatch h), Nat.zero_le _, rfl, fun _ _ _ _ _ e => e⟩ ht
  rintro k s' ⟨H, tk, rs, rfl, hst', hacc', hlive', hG, hS, hi, rfl, hk⟩
  by_cases hlt : rs.length < n
  · refine W.item rs.length _ _ _ hlt hst' fun v h₁ tk₁ hPv hst₁ hk₁ => ?_
    have hlive₁ : Live h₁ := hLive _ _ hlive' (fun b hb _ o e => hk₁ b o (hMw b hb) e) (let ⟨m, x⟩ := hNs _ hlive'; ⟨m, x.at' fun o e => hk₁ _ o (hMw _ hCM) e⟩)
    refine hbind v _ _ _ hlive₁ fun h₂ tk₂ hlive₂ hbd₂ hk₂ => ?_
    have hst₂ : St (rs.length + 1) h₂ := W.frame _ _ _ hst₁ fun b hb o e => hk₂ b o (fun hm => hMf b hm hb) e
    have up₂ : ∀ b o, b ∉ wr → b ∉ Mu → H.get? b = some o → h₂.get? b = some o := fun b o hbw hbM e => hk₂ b o hbM (hk₁ b o hbw e)
    have hacc₂ : h₂.PlainList D (rs.map (·.1)).toArray := hacc'.at fun o e => up₂ _ o hDw hDM e
    refine wpAny_mono (helt rs.length v _ _ hlt hPv hbd₂ ⟨_, _, rfl⟩ fun b o hbw hbM hbD e => up₂ b o hbw hbM (hk b o hbw hbM hbD e)) (fun y s₄ h₄ => ?_) fun _ _ e => e
    obtain ⟨sup, hGy, hsup, h₄, tk₄, rfl, hk₄, hns₄⟩ := h₄
    have hk₄' := hk₄
    replace hk₄ : ∀ b o, b ∉ Mu → h₂.get? b = some o → h₄.get? b = some o := fun b o hb => hk₄ b o fun e => hb (e ▸ hCM)
    have hlive₄ : Live h₄ := hLive _ _ hlive₂ (fun b _ hne o e => hk₄' b o hne e) hns₄
    have hlen : (rs.map (·.1)).toArray.size ≤ sizeLine := by
      rw [List.size_toArray, List.length_map]; unfold sizeLine; omega
    refine wpAny_list_append_plain (hsz := hlen) (hacc₂.at fun o e => hk₄ _ o hDM e) fun h₅ hl₅ hs₅ => ?_
    have new : ∀ p ∈ sup, p.1 ≠ D ∧ p.1 ∉ Mu ∧ p.1 ∉ wr ∧ s.heap.get? p.1 = none := fun p hp => by
      have hnone := (hsup p hp).1
      have h1 : p.1 ≠ D := fun e => by obtain ⟨nn, hd⟩ := hacc₂; rw [e] at hnone; simp only at hnone; rw [hd] at hnone; cases hnone
      have h2 : p.1 ∉ Mu := fun hm => by obtain ⟨o, ho⟩ := hMl _ hlive₂ _ hm; simp only at hnone; rw [ho] at hnone; cases hnone
      have h3 : p.1 ∉ wr := fun hm => by obtain ⟨o, ho⟩ := hwl _ _ hst₂ _ hm; simp only at hnone; rw [ho] at hnone; cases hnone
      refine ⟨h1, h2, h3, ?_⟩
      cases e : s.heap.get? p.1 with
      | none => rfl
      | some o => have := up₂ _ _ h3 h2 (hk _ _ h3 h2 h1 e); simp only at hnone; rw [this] at hnone; cases hnone
    refine ⟨n + 1 - (rs.length + 1), by omega, h₅, tk₄, rs ++ [(y, sup)], rfl, ?_, ?_, ?_, ?_, ?_, ?_, ?_, ?_⟩
    · rw [List.length_append, List.length_singleton]
      exact W.frame _ _ _ hst₂ fun b hb o e => hs₅.extBut b o (fun h => hDf (h ▸ hb)) (hk₄ b o (fun hm => hMf b hm hb) e)
    · have e : ((rs ++ [(y, sup)]).map (·.1)).toArray = (rs.map (·.1)).toArray.push y := by simp
      rw [e]; exact hl₅
    · exact hLive _ _ hlive₄ (fun b hb _ o e => hs₅.extBut b o (fun h => hDM (h ▸ hb)) e) (let ⟨m, x⟩ := hns₄; ⟨m, x.at' fun o e => hs₅.extBut _ o (fun h => hDM (h ▸ hCM)) e⟩)
    · intro i r hr
      rcases Nat.lt_trichotomy i rs.length with h | h | h
      · exact hG i r (by rwa [List.getElem?_append_left h] at hr)
      · subst h; simp at hr; subst hr; exact hGy
      · rw [List.getElem?_eq_none (by rw [List.length_append, List.length_singleton]; omega)] at hr; cases hr
    · intro r hr p hp
      rcases List.mem_append.mp hr with hr | hr
      · obtain ⟨e1, e2, e3, e4, e5⟩ := hS r hr p hp
        exact ⟨hs₅.extBut _ _ e3 (hk₄ _ _ e4 (up₂ _ _ e5 e4 e1)), e2, e3, e4, e5⟩
      · rw [List.mem_singleton.mp hr] at hp
        obtain ⟨e1, e2, e3, e4⟩ := new p hp
        exact ⟨hs₅.extBut _ _ e1 (hsup p hp).2, e4, e1, e2, e3⟩
    · rw [List.length_append, List.length_singleton]; omega
    · rw [List.length_append, List.length_singleton]
    · exact fun b o hbw hbM hbD e => hs₅.extBut b o hbD (hk₄ b o hbM (up₂ b o hbw hbM (hk b o hbw hbM hbD e)))
  · have hin : rs.length = n := by omega
    refine W.done _ _ _ (hin ▸ hst') fun h₁ tk₁ hk₁ => ?_
    refine hR h₁ tk₁ rs (hacc'.at fun o e => hk₁ _ o hDw e) hin hG (fun r hr p hp => ?_) (hLive _ _ hlive' (fun b hb _ o e => hk₁ b o (hMw b hb) e) (let ⟨m, x⟩ := hNs _ hlive'; ⟨m, x.at' fun o e => hk₁ _ o (hMw _ hCM) e⟩)) fun b o hbw hbM hbD e => hk₁ b o hbw (hk b o hbw hbM hbD e)
    obtain ⟨e1, e2, e3, e4, e5⟩ := hS r hr p hp
    exact ⟨hk₁ _ _ e5 e1, e2, e3, e4⟩
end
section
variable {M : Model} {A : Around} {E : Value → Shared → Prop} {s : Shared}
theorem newEnv_comp {scope : Scope} {globals : Addr} {closure : List (Str × Addr)} {qual : Str} {outer : Env} {Q : Env → Shared → Prop}
    (hQ : Q (newEnv scope s.heap.objs.size globals (cellsFrom (s.heap.objs.size + 1) scope.names closure) qual none .none (some outer) builtinsNs) { s with heap := pushCells (s.heap.push { cls := .type "dict", data := .dict #[] }) scope.names }) :
    wpAny M A (newFunctionEnv scope globals closure [] qual none .none (some outer)) Q E s := by
  simp only [newFunctionEnv, Option.isSome_some, if_true]
  refine wpAny_bind (wpAny_alloc ?_)
  refine wpAny_bind (wpAny_layCells _ (fun name kind cells => by cases hkc : kind == NameKind.cell <;> simp [hkc]) _ _ _ _ ?_)
  rw [show ({ s with heap := s.heap.push { cls := .type "dict", data := .dict #[] } } : Shared).heap.objs.size = s.heap.objs.size + 1 from Heap.size_push ..]
  exact wpAny_bind (wpAny_pure (wpAny_pure hQ))
end
section
variable {prog : Program} {w : World} {A : Around} {E : Value → Shared → Prop} {env : Env} {s₂ : Shared}
theorem comp_block {elt target iter : PySem.Expr} {scope : Scope} {cl : List (Str × Addr)} {pos : Pos} {I : Addr} {fp wr : List Addr} {n : Nat} {P : Nat → Value → Prop} {St : Nat → Heap → Prop}
    (Mu : Addr → List Addr) (Live : Addr → Heap → Prop) (Bd : Addr → Value → Heap → Prop) (G : Nat → Value → List (Addr × Obj) → Prop) {RR : Value → Addr → Result → Shared → Prop}
    (W : Walks prog w A I fp wr n P St) (hn : n ≤ 1000) (ht : ∀ v, letOwnedTupleGo target (.ref I) v = pure ())
    (hwl : ∀ i h, St i h → ∀ b ∈ wr, ∃ o, h.get? b = some o)
    (hMl : ∀ C h, Live C h → ∀ b ∈ Mu C, ∃ o, h.get? b = some o)
    (hLive : ∀ C h h', Live C h → (∀ b ∈ Mu C, b ≠ C → ∀ o, h.get? b = some o → h'.get? b = some o) → (∃ m, h'.Ns C m) → Live C h')
    (hNs : ∀ C h, Live C h → ∃ m, h.Ns C m) (hMC : ∀ C b, b ∈ Mu C → C ≤ b) (hCM : ∀ C, C ∈ Mu C)
    (hstart : ∀ h : Heap, Live h.objs.size (pushCells (h.push { cls := .type "dict", data := .dict #[] }) scope.names))
    (hbind : ∀ C v (s' : Shared) (Q : Unit → Shared → Prop) E', Live C s'.heap → (∀ h' tk, Live C h' → Bd C v h' → (∀ b o, b ∉ Mu C → s'.heap.get? b = some o → h'.get? b = some o) → Q () { s' with heap := h', toks := tk }) →
      wpAny (model prog w) A (assign target (compEnvC scope (cellsFrom (C + 1) scope.names cl) C env) v) Q E' s')
    (hst : St 0 s₂.heap) (hfp : ∀ b ∈ fp, b < s₂.heap.objs.size)
    (helt : ∀ C i v (s₃ : Shared) E', s₂.heap.objs.size ≤ C → i < n → P i v → Bd C v s₃.heap → (∃ h tk, s₃ = { s₂ with heap := h, toks := tk }) → (∀ b o, b ∉ wr → s₂.heap.get? b = some o → s₃.heap.get? b = some o) →
      wpAny (model prog w) A (eval elt (compEnvC scope (cellsFrom (C + 1) scope.names cl) C env)) (fun y s₄ => ∃ sup, G i y sup ∧ (∀ p ∈ sup, s₃.heap.get? p.1 = none ∧ s₄.heap.get? p.1 = some p.2) ∧ KeepsBut C s₃ s₄) E' s₃)
    (hRR : ∀ D C h' tk (rs : List (Value × List (Addr × Obj))), s₂.heap.get? D = none → s₂.heap.get? C = none → D ≠ C → (∃ m, h'.Ns C m) → h'.PlainList D (rs.map (·.1)).toArray → rs.length = n → (∀ i r, rs[i]? = some r → G i r.1 r.2) →
      (∀ r ∈ rs, ∀ p ∈ r.2, h'.get? p.1 = some p.2 ∧ s₂.heap.get? p.1 = none ∧ p.1 ≠ D ∧ p.1 ≠ C) → (∀ b o, b ∉ wr → s₂.heap.get? b = some o → h'.get? b = some o) → RR (.ref D) C (.ok .next) { s₂ with heap := h', toks := tk }) :
    wpAny (model prog w) A (newList []) (fun acc s₃ => wpAny (model prog w) A (newFunctionEnv scope env.globals cl [] env.qual none .none (some env)) (fun cenv s₄ =>
      codeAny (model prog w) A (.compStart (.ListComp elt [⟨target, iter, [], 0⟩] scope pos) 0 (.ref I) acc { cenv with scope := relabel scope env }) (RR acc cenv.locals) s₄) E s₃) E s₂ := by
  refine wpAny_newObj_type (newEnv_comp ?_)
  dsimp only
  generalize hH2 : s₂.heap.push { cls := .type "list", dict := none, data := .seq ([] : List Value).toArray } = H2
  have hC : H2.objs.size = s₂.heap.objs.size + 1 := by rw [← hH2, Heap.size_push]
  have hDC : s₂.heap.objs.size ≠ H2.objs.size := by rw [hC]; exact Nat.ne_of_lt (Nat.lt_succ_self _)
  have below : ∀ b, b < s₂.heap.objs.size → b ∉ Mu H2.objs.size ∧ b ≠ s₂.heap.objs.size := fun b hb => ⟨fun hm => Nat.not_le.mpr (Nat.lt_trans hb (hC ▸ Nat.lt_succ_self _)) (hMC _ _ hm), Nat.ne_of_lt hb⟩
  generalize hh₁ : pushCells (H2.push { cls := .type "dict", data := .dict #[] }) scope.names = h₁
  have old : ∀ b o, s₂.heap.get? b = some o → h₁.get? b = some o := fun b o e => hh₁ ▸ pushCells_keeps _ _ b o (Heap.get?_push_of_some _ (hH2 ▸ Heap.get?_push_of_some _ e))
  have hacc : h₁.PlainList s₂.heap.objs.size #[] := ⟨0, hh₁ ▸ pushCells_keeps _ _ _ _ (Heap.get?_push_of_some _ (hH2 ▸ Heap.get?_push_size _ rfl))⟩
  have hlive : Live H2.objs.size h₁ := hh₁ ▸ hstart H2
  have hst₁ : St 0 h₁ := W.frame _ _ _ hst fun b _ o e => old b o e
  have fresh : ∀ a, s₂.heap.objs.size ≤ a → s₂.heap.get? a = none := fun a ha => by
    cases e : s₂.heap.get? a with
    | none => rfl
    | some o' => exact absurd (Heap.lt_size e) (Nat.not_lt.mpr ha)
  have loop : codeAny (model prog w) A (.compLoop (.ListComp elt [⟨target, iter, [], 0⟩] scope pos) 0 (.ref I) (.ref s₂.heap.objs.size) (compEnvC scope (cellsFrom (H2.objs.size + 1) scope.names cl) H2.objs.size env))
      (RR (.ref s₂.heap.objs.size) H2.objs.size) { s₂ with heap := h₁ } := by
    refine comp_loop H2.objs.size (Mu H2.objs.size) (Live H2.objs.size) (Bd H2.objs.size) G W hn ht hwl (hMl _) (hLive _) (hNs _) (hCM _) (hbind _) (fun hm => ?_) (fun hm => ?_) (fun b hb hm => ?_) hst₁ hacc hlive ?_ ?_
    · exact Nat.not_le.mpr (hC ▸ Nat.lt_succ_self _) (hMC _ _ hm)
    · exact Nat.lt_irrefl _ (hfp _ hm)
    · exact Nat.not_le.mpr (Nat.lt_trans (hfp _ hm) (hC ▸ Nat.lt_succ_self _)) (hMC _ _ hb)
    · rintro i v s₃ E' hi hPv hbd ⟨h3, tk3, rfl⟩ hk
      exact helt _ i v _ E' (hC ▸ Nat.le_succ _) hi hPv hbd ⟨h3, tk3, rfl⟩ fun b o hbw e => hk b o hbw (below b (Heap.lt_size e)).1 (below b (Heap.lt_size e)).2 (old b o e)
    · intro h' tk rs hl hlen hG hS hlv hk
      refine hRR _ _ h' tk rs (fresh _ (Nat.le_refl _)) (fresh _ (by omega)) hDC (hNs _ _ hlv) hl hlen hG (fun r hr p hp => ?_) fun b o hbw e => hk b o hbw (below b (Heap.lt_size e)).1 (below b (Heap.lt_size e)).2 (old b o e)
      obtain ⟨e1, e2, e3, e4⟩ := hS r hr p hp
      refine ⟨e1, ?_, e3, fun e => e4 (e ▸ hCM _)⟩
      cases e : s₂.heap.get? p.1 with
      | none => rfl
      | some o => have := old _ _ e; simp only at e2; rw [this] at e2; cases e2
  exact codeAny_compStart_list loop (W.self 0 _ _ _ hst₁ loop)
end
end Mine
end
section
open PySem PySem.W PyProof.Rows PySem.Calls
namespace Mine
set_option maxRecDepth 100000
theorem noCells_push : ∀ {names : List (Str × NameKind)}, (∀ y ∈ names, y.2 ≠ .cell) → ∀ h : Heap, pushCells h names = h
  | [], _, _ => rfl
  | (n, k) :: r, hc, h => by
    have hk : (k == NameKind.cell) = false := by simpa using hc (n, k) (.head _)
    unfold pushCells
    rw [hk, if_neg Bool.false_ne_true]
    exact noCells_push (fun y hy => hc y (.tail _ hy)) h
theorem noCells_from : ∀ {names : List (Str × NameKind)}, (∀ y ∈ names, y.2 ≠ .cell) → ∀ (n : Nat) (cl : List (Str × Addr)), cellsFrom n names cl = cl
  | [], _, _, _ => rfl
  | (n, k) :: r, hc, i, cl => by
    have hk : (k == NameKind.cell) = false := by simpa using hc (n, k) (.head _)
    unfold cellsFrom
    rw [hk, if_neg Bool.false_ne_true]
    exact noCells_from (fun y hy => hc y (.tail _ hy)) i cl
/-- what a comprehension asks of its element and of what stands behind it -/
structure CompAsk (prog : Program) (w : World) (A : Around) (elt : PySem.Expr) (n : Nat) (P : Nat → Value → Prop) (G : Nat → Value → List (Addr × Obj) → Prop) (Bd : Addr → Value → Heap → Prop) (cenv : Addr → Env) (s₁ : Shared) (Q : Value → Shared → Prop) : Prop where
  elt : ∀ C i v (s₃ : Shared) E', s₁.heap.objs.size ≤ C → i < n → P i v → Bd C v s₃.heap → (∃ h tk, s₃ = { s₁ with heap := h, toks := tk }) → Ext s₁.heap s₃.heap →
    wpAny (model prog w) A (eval elt (cenv C)) (fun y s₄ => ∃ sup, G i y sup ∧ (∀ p ∈ sup, s₃.heap.get? p.1 = none ∧ s₄.heap.get? p.1 = some p.2) ∧ KeepsBut C s₃ s₄) E' s₃
  done : ∀ D h' tk (rs : List (Value × List (Addr × Obj))), s₁.heap.get? D = none → h'.PlainList D (rs.map (·.1)).toArray → rs.length = n → (∀ i r, rs[i]? = some r → G i r.1 r.2) →
    (∀ r ∈ rs, ∀ p ∈ r.2, h'.get? p.1 = some p.2 ∧ s₁.heap.get? p.1 = none ∧ p.1 ≠ D) → Ext s₁.heap h' → Q (.ref D) { s₁ with heap := h', toks := tk }
abbrev BdL (x : Str) : Addr → Value → Heap → Prop := fun C v h => ∃ m, h.Ns C m ∧ m x = some v
abbrev BdC : Addr → Value → Heap → Prop := fun C v h => (∃ m, h.Ns C m) ∧ h.IsCell (C + 1) (some v)
abbrev LiveL : Addr → Heap → Prop := fun C h => ∃ m, h.Ns C m
abbrev LiveC : Addr → Heap → Prop := fun C h => (∃ m, h.Ns C m) ∧ ∃ v, h.IsCell (C + 1) v
/-- where the items come from: a list, or a range by ones -/
inductive Src (h : Heap) : Value → Nat → (Nat → Value → Prop) → Prop
  | list {l : Addr} {vs : Array Value} : h.IsList l vs → Src h (.ref l) vs.size (fun i v => vs[i]? = some v)
  | range {r : Addr} {n : Nat} {t u v : Tok} : IsRange h r 0 (n : Int) 1 t u v → n ≤ 10 → Src h (.ref r) n (fun i v => ∃ t, v = .int (i : Int) t)
section
variable {prog : Program} {w : World} {A : Around} {E : Value → Shared → Prop} {env : Env} {s : Shared}
theorem src_iter {xv : Value} {n : Nat} {P : Nat → Value → Prop} {Q : Value → Shared → Prop} (hh : A.handled = none) (S : Src s.heap xv n P)
    (h : ∀ (I : Addr) (fp : List Addr) (St : Nat → Heap → Prop) (o : Obj), I = s.heap.objs.size → Walks prog w A I fp [I] n P St → (∀ i h, St i h → ∃ o, h.get? I = some o) → St 0 (s.heap.push o) → (∀ b ∈ fp, b < (s.heap.push o).objs.size) → o.isFreed = false → Q (.ref I) { s with heap := s.heap.push o }) :
    wpAny (model prog w) A (pyIter xv) Q E s := by
  cases S with
  | @list l vs hl =>
    obtain ⟨ol, hol, _⟩ := id hl
    have hlt : l < s.heap.objs.size := Heap.lt_size hol
    refine wpAny_pyIter_list hl ?_
    refine h _ _ _ _ rfl (Walks.list hh s.heap.objs.size l (Nat.ne_of_lt hlt) vs) (fun i h st => by obtain ⟨o, ho, _⟩ := st.1; exact ⟨o, ho⟩) ⟨⟨_, Heap.get?_push_size _ rfl, rfl, rfl⟩, hl.at fun o e => Heap.get?_push_of_some _ e⟩ (fun b hb => ?_) rfl
    rw [Heap.size_push]
    rcases List.mem_cons.mp hb with rfl | hb
    · exact Nat.lt_succ_self _
    · rw [List.mem_singleton.mp hb]; exact Nat.lt_succ_of_lt hlt
  | @range r n t u v hr hn =>
    have hrs : Builtin.Range.rangeSize 0 (n : Int) 1 = (n : Int) := by
      unfold Builtin.Range.rangeSize
      simp only [show (1 : Int) > 0 from by decide, if_true, Int.ediv_one]
      split <;> omega
    refine wpAny_pyIter_range hr (small11 n (by omega)) ?_
    have W : Walks prog w A s.heap.objs.size [s.heap.objs.size] [s.heap.objs.size] n (fun i v => ∃ t, v = .int (i : Int) t) (fun i h => IsRangeIter h s.heap.objs.size (0 + (i : Nat) * 1) ((n : Int) - (i : Nat)) 1) := by
      have e : (fun (i : Nat) (v : Value) => ∃ t, v = Value.int (i : Int) t) = fun (i : Nat) (v : Value) => ∃ t, v = Value.int (0 + (i : Int) * 1) t := by funext i v; rw [Int.mul_one, Int.zero_add]
      rw [e]; exact Walks.range hh _ 0 1 n
    refine h _ _ _ _ rfl W (fun i h st => ⟨_, st⟩) ?_ (fun b hb => ?_) rfl
    · show IsRangeIter _ _ _ _ _; rw [hrs]; simpa using Heap.get?_push_size _ rfl
    · rw [List.mem_singleton.mp hb, Heap.size_push]; exact Nat.lt_succ_self _
theorem comp_any {elt target iter : PySem.Expr} {scope : Scope} {cl : List (Str × Addr)} {pos p' : Pos} {use : Option (Value → Sem Unit)} {Q : Value → Shared → Prop}
    (Mu : Addr → List Addr) (Live : Addr → Heap → Prop) (Bd : Addr → Value → Heap → Prop) (hh : A.handled = none)
    (hs : ∀ x, foldedSetIterable iter env x = pure x) (hclos : closureFor scope env = pure cl) (hkind : scope.kind = .function) (hnames : ∀ y ∈ scope.names, y.2 = .local → scope.names.lookup y.1 = some .local)
    (ht : ∀ I v, letOwnedTupleGo target (.ref I) v = pure ())
    (hMl : ∀ C h, Live C h → ∀ b ∈ Mu C, ∃ o, h.get? b = some o)
    (hLive : ∀ C h h', Live C h → (∀ b ∈ Mu C, b ≠ C → ∀ o, h.get? b = some o → h'.get? b = some o) → (∃ m, h'.Ns C m) → Live C h')
    (hNs : ∀ C h, Live C h → ∃ m, h.Ns C m) (hMC : ∀ C b, b ∈ Mu C → C ≤ b) (hCM : ∀ C, C ∈ Mu C)
    (hstart : ∀ h : Heap, Live h.objs.size (pushCells (h.push { cls := .type "dict", data := .dict #[] }) scope.names))
    (hbind : ∀ C v (s' : Shared) (Q : Unit → Shared → Prop) E', Live C s'.heap → (∀ h' tk, Live C h' → Bd C v h' → (∀ b o, b ∉ Mu C → s'.heap.get? b = some o → h'.get? b = some o) → Q () { s' with heap := h', toks := tk }) →
      wpAny (model prog w) A (assign target (compEnvC scope (cellsFrom (C + 1) scope.names cl) C env) v) Q E' s')
    (h : wpAny (model prog w) A (eval iter env) (fun xv s₁ => ∃ n P G, Src s₁.heap xv n P ∧ n ≤ 1000 ∧ CompAsk prog w A elt n P G Bd (fun C => compEnvC scope (cellsFrom (C + 1) scope.names cl) C env) s₁
      (fun acc s' => match use with
        | none => Q acc s'
        | some u => ∀ C, s₁.heap.get? C = none → (∃ m, s'.heap.Ns C m) → wpAny (model prog w) A (u acc) (fun _ s'' => ∃ m, s''.heap.Ns C m ∧ ∀ h', Heap.SameBut C s''.heap h' → Q .none { s'' with heap := h' }) E s')) E s) :
    wpAny (model prog w) A (comprehension (.ListComp elt [⟨target, iter, [], 0⟩] scope pos) scope env p' (newList []) false (eval iter env) use) Q E s := by
  refine wpAny_comprehension_free rfl hs hclos hkind hnames (wpAny_mono h (fun xv s₁ h₁ => ?_) fun _ _ e => e)
  obtain ⟨n, P, G, hsrc, hn, hask⟩ := h₁
  refine src_iter hh hsrc fun I fp St o hI W hwl hst hfp hfree => ?_
  have hkI : ∀ b o', s₁.heap.get? b = some o' → b ∉ [I] := fun b o' e hm => by rw [List.mem_singleton.mp hm, hI] at e; exact absurd (Heap.lt_size e) (Nat.lt_irrefl _)
  have up : ∀ b o', s₁.heap.get? b = some o' → (s₁.heap.push o).get? b = some o' := fun b o' e => Heap.get?_push_of_some _ e
  have back : ∀ b, (s₁.heap.push o).get? b = none → s₁.heap.get? b = none := fun b e => by
    cases e' : s₁.heap.get? b with
    | none => rfl
    | some o' => rw [up _ _ e'] at e; cases e
  refine comp_block (s₂ := { s₁ with heap := s₁.heap.push o }) Mu Live Bd G (RR := fun acc C => compPost (model prog w) A E use Q acc C) W hn (ht I) (fun i h st b hb => by rw [List.mem_singleton.mp hb]; exact hwl i h st) hMl hLive hNs hMC hCM hstart hbind hst hfp ?_ ?_
  · rintro C i v s₃ E' hsz hi hPv hbd ⟨h3, tk3, rfl⟩ hk
    exact hask.elt C i v _ E' (Nat.le_trans (by rw [Heap.size_push]; exact Nat.le_succ _) hsz) hi hPv hbd ⟨h3, tk3, rfl⟩ fun b o' e => hk b o' (hkI b o' e) (up b o' e)
  · rintro D C h' tk rs hD hC hDC ⟨m, hm⟩ hl hlen hG hS hk
    have hD' := back D hD
    have hC' := back C hC
    cases use with
    | none =>
      refine ⟨m, hm, fun h'' hs'' => ?_⟩
      refine hask.done D h'' tk rs hD' (hl.at fun o' e => hs''.extBut _ _ hDC e) hlen hG (fun r hr p hp => ?_) fun b o' e => hs''.extBut _ _ (by rintro rfl; rw [hC'] at e; cases e) (hk b o' (hkI b o' e) (up b o' e))
      obtain ⟨e1, e2, e3, e4⟩ := hS r hr p hp
      exact ⟨hs''.extBut _ _ e4 e1, back _ e2, e3⟩
    | some u =>
      exact hask.done D h' tk rs hD' hl hlen hG (fun r hr p hp => by obtain ⟨e1, e2, e3, e4⟩ := hS r hr p hp; exact ⟨e1, back _ e2, e3⟩) (fun b o' e => hk b o' (hkI b o' e) (up b o' e)) C hC' ⟨m, hm⟩
end
end Mine
end
section
open PySem PySem.W PyProof.Rows PySem.Calls
namespace Mine
set_option maxRecDepth 100000
def cutAt (h : Heap) (C : Nat) : Heap := { h with objs := h.objs.extract 0 C }
theorem cut_size (h : Heap) (C : Nat) : (cutAt h C).objs.size ≤ C := by
  show (h.objs.extract 0 C).size ≤ C
  rw [Array.size_extract]; omega
theorem cut_get (h : Heap) (C b : Nat) : (cutAt h C).objs[b]? = if b < C then h.objs[b]? else none := by
  show (h.objs.extract 0 C)[b]? = _
  rw [Array.getElem?_extract]
  simp only [Nat.zero_add, Nat.sub_zero]
  by_cases hb : b < C
  · rw [if_pos hb]
    by_cases hs : b < h.objs.size
    · rw [if_pos (by omega)]
    · rw [if_neg (by omega), Array.getElem?_eq_none (by omega)]
  · rw [if_neg hb, if_neg (by omega)]
theorem cut_some {h : Heap} {C : Nat} {b : Addr} {o : Obj} (e : (cutAt h C).get? b = some o) : h.get? b = some o := by
  obtain ⟨e1, e2⟩ := Heap.get?_some_iff.mp e
  rw [cut_get] at e1
  split at e1
  · exact Heap.get?_some_iff.mpr ⟨e1, e2⟩
  · cases e1
theorem cut_of {h : Heap} {C : Nat} {b : Addr} {o : Obj} (e : h.get? b = some o) (hb : @LT.lt Nat _ b C) : (cutAt h C).get? b = some o := by
  obtain ⟨e1, e2⟩ := Heap.get?_some_iff.mp e
  exact Heap.get?_some_iff.mpr ⟨by rw [cut_get, if_pos hb]; exact e1, e2⟩
def aboveAll (h : Heap) (C : Nat) : List (Addr × Obj) := (List.range h.objs.size).filterMap fun (b : Nat) => if C < b then (h.get? b).map fun o => (b, o) else none
theorem mem_above {h : Heap} {C : Nat} {p : Addr × Obj} : p ∈ aboveAll h C ↔ @LT.lt Nat _ C p.1 ∧ h.get? p.1 = some p.2 := by
  unfold aboveAll
  rw [List.mem_filterMap]
  constructor
  · rintro ⟨b, hb, e⟩
    split at e
    · rename_i hC
      cases e' : h.get? b with
      | none => rw [e'] at e; cases e
      | some o => rw [e'] at e; injection e with e; subst e; exact ⟨hC, e'⟩
    · cases e
  · rintro ⟨h1, h2⟩
    refine ⟨p.1, List.mem_range.mpr (Heap.lt_size h2), ?_⟩
    rw [if_pos h1, h2]; rfl
/-- how an element's evaluation ends -/
def ElEnd (g : Heap) (C : Addr) (rest : List (Addr × Obj)) (h : Heap) (s₁ : Shared) (G : Value → List (Addr × Obj) → Prop) (y : Value) (s₄ : Shared) : Prop :=
  ∃ h' tk' m' all sup, s₄ = { s₁ with heap := h', toks := tk' } ∧ Fr g C h' m' ∧ News g C h' all ∧ (∀ p ∈ rest, p ∈ all) ∧ (∀ p ∈ sup, h'.get? p.1 = some p.2 ∧ h.get? p.1 = none) ∧ G y sup
section
variable {prog : Program} {w : World} {A : Around}
theorem el_keeps {C : Addr} {h : Heap} {s₁ : Shared} {tk : Nat} {G : Value → List (Addr × Obj) → Prop} {y : Value} {s₄ : Shared} {rest : List (Addr × Obj)} (hr : ∀ p : Addr × Obj, @LT.lt Nat _ C p.1 → h.get? p.1 = some p.2 → p ∈ rest)
    (x : ElEnd (cutAt h C) C rest h s₁ G y s₄) :
    ∃ sup, G y sup ∧ (∀ p ∈ sup, ({ s₁ with heap := h, toks := tk } : Shared).heap.get? p.1 = none ∧ s₄.heap.get? p.1 = some p.2) ∧ KeepsBut C { s₁ with heap := h, toks := tk } s₄ := by
  obtain ⟨h', tk', m', all, sup, rfl, F, N, hra, hs, hG⟩ := x
  refine ⟨sup, hG, fun p hp => ⟨(hs p hp).2, (hs p hp).1⟩, h', tk', rfl, fun b o hne e => ?_, m', F.ns⟩
  simp only at e
  rcases Nat.lt_trichotomy b C with hb | hb | hb
  · exact F.keep b o (cut_of e hb)
  · exact absurd hb hne
  · exact (N (b, o) (hra _ (hr _ hb e))).1
theorem askL {elt : PySem.Expr} {x : Str} {n : Nat} {P : Nat → Value → Prop} {G : Nat → Value → List (Addr × Obj) → Prop} {cenv : Addr → Env} {s₁ : Shared} {Q : Value → Shared → Prop}
    (helt : ∀ g C rest m₂ i v h tk E', i < n → P i v → Ext s₁.heap g → Fr g C h m₂ → m₂ x = some v → News g C h rest →
      wpAny (model prog w) A (eval elt (cenv C)) (ElEnd g C rest h s₁ (G i)) E' { s₁ with heap := h, toks := tk })
    (hdone : ∀ D h' tk (rs : List (Value × List (Addr × Obj))), s₁.heap.get? D = none → h'.PlainList D (rs.map (·.1)).toArray → rs.length = n → (∀ i r, rs[i]? = some r → G i r.1 r.2) →
      (∀ r ∈ rs, ∀ p ∈ r.2, h'.get? p.1 = some p.2 ∧ s₁.heap.get? p.1 = none ∧ p.1 ≠ D) → Ext s₁.heap h' → Q (.ref D) { s₁ with heap := h', toks := tk }) :
    CompAsk prog w A elt n P G (BdL x) cenv s₁ Q := by
  refine ⟨?_, hdone⟩
  rintro C i v s₃ E' hC hi hP ⟨m, hns, hm⟩ ⟨h, tk, rfl⟩ hx
  refine wpAny_mono (helt (cutAt h C) C (aboveAll h C) m i v h tk E' hi hP (fun b o e => cut_of (hx b o e) (Nat.lt_of_lt_of_le (Heap.lt_size e) hC)) ⟨hns, fun b o e => cut_some e, cut_size h C⟩ hm ?_) (fun y s₄ h₄ => el_keeps (fun p h1 h2 => mem_above.mpr ⟨h1, h2⟩) h₄) fun _ _ e => e
  intro p hp
  obtain ⟨h1, h2⟩ := mem_above.mp hp
  exact ⟨h2, Nat.ne_of_gt h1, Heap.get?_none_of_le (Nat.le_trans (cut_size h C) (Nat.le_of_lt h1))⟩
theorem askC {elt : PySem.Expr} {n : Nat} {P : Nat → Value → Prop} {G : Nat → Value → List (Addr × Obj) → Prop} {cenv : Addr → Env} {s₁ : Shared} {Q : Value → Shared → Prop}
    (helt : ∀ g C oc rest m₂ i v h tk E', i < n → P i v → Ext s₁.heap g → Fr g C h m₂ → oc.data = .cell (some v) → News g C h ((C + 1, oc) :: rest) →
      wpAny (model prog w) A (eval elt (cenv C)) (ElEnd g C ((C + 1, oc) :: rest) h s₁ (G i)) E' { s₁ with heap := h, toks := tk })
    (hdone : ∀ D h' tk (rs : List (Value × List (Addr × Obj))), s₁.heap.get? D = none → h'.PlainList D (rs.map (·.1)).toArray → rs.length = n → (∀ i r, rs[i]? = some r → G i r.1 r.2) →
      (∀ r ∈ rs, ∀ p ∈ r.2, h'.get? p.1 = some p.2 ∧ s₁.heap.get? p.1 = none ∧ p.1 ≠ D) → Ext s₁.heap h' → Q (.ref D) { s₁ with heap := h', toks := tk }) :
    CompAsk prog w A elt n P G BdC cenv s₁ Q := by
  refine ⟨?_, hdone⟩
  rintro C i v s₃ E' hC hi hP ⟨⟨m, hns⟩, oc, hoc, hocd⟩ ⟨h, tk, rfl⟩ hx
  refine wpAny_mono (helt (cutAt h C) C oc (aboveAll h C) m i v h tk E' hi hP (fun b o e => cut_of (hx b o e) (Nat.lt_of_lt_of_le (Heap.lt_size e) hC)) ⟨hns, fun b o e => cut_some e, cut_size h C⟩ hocd ?_) (fun y s₄ h₄ => el_keeps (fun p h1 h2 => List.mem_cons_of_mem _ (mem_above.mpr ⟨h1, h2⟩)) h₄) fun _ _ e => e
  intro p hp
  have hp' : @LT.lt Nat _ C p.1 ∧ h.get? p.1 = some p.2 := by
    rcases List.mem_cons.mp hp with rfl | hp
    · exact ⟨Nat.lt_succ_self _, hoc⟩
    · exact mem_above.mp hp
  exact ⟨hp'.2, Nat.ne_of_gt hp'.1, Heap.get?_none_of_le (Nat.le_trans (cut_size h C) (Nat.le_of_lt hp'.1))⟩
end
section
variable {prog : Program} {w : World} {A : Around} {E : Value → Shared → Prop} {env : Env} {s : Shared}
theorem comp_useL {elt iter : PySem.Expr} {x : Str} {px : Pos} {scope : Scope} {cl : List (Str × Addr)} {pos p' : Pos} {use : Option (Value → Sem Unit)} {Q : Value → Shared → Prop} (hh : A.handled = none)
    (hs : ∀ x, foldedSetIterable iter env x = pure x) (hclos : closureFor scope env = pure cl) (hkind : scope.kind = .function) (hnames : ∀ y ∈ scope.names, y.2 = .local → scope.names.lookup y.1 = some .local)
    (hcell : ∀ y ∈ scope.names, y.2 ≠ .cell) (hx : scope.names.lookup x = some .local)
    (h : wpAny (model prog w) A (eval iter env) (fun xv s₁ => ∃ n P G, Src s₁.heap xv n P ∧ n ≤ 1000 ∧ CompAsk prog w A elt n P G (BdL x) (fun C => compEnvC scope cl C env) s₁
      (fun acc s' => match use with
        | none => Q acc s'
        | some u => ∀ C, s₁.heap.get? C = none → (∃ m, s'.heap.Ns C m) → wpAny (model prog w) A (u acc) (fun _ s'' => ∃ m, s''.heap.Ns C m ∧ ∀ h', Heap.SameBut C s''.heap h' → Q .none { s'' with heap := h' }) E s')) E s) :
    wpAny (model prog w) A (comprehension (.ListComp elt [⟨.Name x px, iter, [], 0⟩] scope pos) scope env p' (newList []) false (eval iter env) use) Q E s := by
  have e : ∀ C : Nat, cellsFrom (C + 1) scope.names cl = cl := fun C => noCells_from hcell _ _
  refine comp_any (fun C => [C]) LiveL (BdL x) hh hs hclos hkind hnames (fun _ _ => rfl) ?_ ?_ (fun C h x => x) ?_ (fun C => List.mem_singleton.mpr rfl) ?_ ?_ ?_
  · rintro C h ⟨m, o, _, _, ho, _⟩ b hb; rw [List.mem_singleton.mp hb]; exact ⟨o, ho⟩
  · intro C h h' _ _ x; exact x
  · intro C b hb; rw [List.mem_singleton.mp hb]; exact Nat.le_refl _
  · intro h; rw [noCells_push hcell]; exact ⟨_, Heap.Ns.new h _⟩
  · rintro C v s' Q' E' ⟨m, hm⟩ hk
    refine wpAny_assign_Name (wpAny_storeName_local (lookup_relabel_local hx) hm (fun h' hn hs => ?_) (by simp [compEnvC, relabel, hkind]))
    exact hk h' _ ⟨_, hn⟩ ⟨_, hn, if_pos rfl⟩ fun b o hb e => hs.extBut b o (fun e => hb (List.mem_singleton.mpr e)) e
  · simp only [e]; exact h
theorem comp_local {elt iter : PySem.Expr} {x : Str} {px : Pos} {scope : Scope} {cl : List (Str × Addr)} {pos : Pos} {Q : Value → Shared → Prop} (hh : A.handled = none)
    (hclos : closureFor scope env = pure cl) (hkind : scope.kind = .function) (hnames : ∀ y ∈ scope.names, y.2 = .local → scope.names.lookup y.1 = some .local)
    (hcell : ∀ y ∈ scope.names, y.2 ≠ .cell) (hx : scope.names.lookup x = some .local)
    (h : wpAny (model prog w) A (eval iter env) (fun xv s₁ => ∃ n P G, Src s₁.heap xv n P ∧ n ≤ 1000 ∧ CompAsk prog w A elt n P G (BdL x) (fun C => compEnvC scope cl C env) s₁ Q) E s)
    (hs : ∀ x, foldedSetIterable iter env x = pure x := by intro _; rfl) :
    wpAny (model prog w) A (eval (.ListComp elt [⟨.Name x px, iter, [], 0⟩] scope pos) env) Q E s := by
  rw [eval_ListComp]
  exact comp_useL (use := none) hh hs hclos hkind hnames hcell hx h
theorem comp_cell {elt iter : PySem.Expr} {x : Str} {px : Pos} {scope : Scope} {cl : List (Str × Addr)} {pos : Pos} {Q : Value → Shared → Prop} (hh : A.handled = none)
    (hclos : closureFor scope env = pure cl) (hkind : scope.kind = .function) (hnames : ∀ y ∈ scope.names, y.2 = .local → scope.names.lookup y.1 = some .local)
    (hpush : ∀ h, pushCells h scope.names = h.push { cls := .type "cell", data := .cell none }) (hfrom : ∀ n, cellsFrom n scope.names cl = (x, n) :: cl) (hx : (relabel scope env).names.lookup x = some .cell)
    (h : wpAny (model prog w) A (eval iter env) (fun xv s₁ => ∃ n P G, Src s₁.heap xv n P ∧ n ≤ 1000 ∧ CompAsk prog w A elt n P G BdC (fun C => compEnvC scope ((x, C + 1) :: cl) C env) s₁ Q) E s)
    (hs : ∀ x, foldedSetIterable iter env x = pure x := by intro _; rfl) :
    wpAny (model prog w) A (eval (.ListComp elt [⟨.Name x px, iter, [], 0⟩] scope pos) env) Q E s := by
  rw [eval_ListComp]
  refine comp_any (use := none) (fun C => [C, C + 1]) LiveC BdC hh hs hclos hkind hnames (fun _ _ => rfl) ?_ ?_ (fun C h x => x.1) ?_ (fun C => List.mem_cons_self) ?_ ?_ ?_
  · rintro C h ⟨⟨m, o, _, _, ho, _⟩, v, o', ho', _⟩ b hb
    rcases List.mem_cons.mp hb with rfl | hb
    · exact ⟨o, ho⟩
    · rw [List.mem_singleton.mp hb]; exact ⟨o', ho'⟩
  · rintro C h h' ⟨_, v, o, ho, hd⟩ hk x
    exact ⟨x, v, o, hk _ (by simp) (Nat.succ_ne_self C) o ho, hd⟩
  · intro C b hb
    rcases List.mem_cons.mp hb with rfl | hb
    · exact Nat.le_refl _
    · rw [List.mem_singleton.mp hb]; exact Nat.le_succ _
  · intro h; rw [hpush]
    refine ⟨⟨_, (Heap.Ns.new h _).at' fun o e => Heap.get?_push_of_some _ e⟩, none, ({ cls := .type "cell", data := .cell none } : Obj), ?_, rfl⟩
    have := Heap.get?_push_size (h.push { cls := .type "dict", data := .dict #[] }) (o := { cls := .type "cell", data := .cell none }) rfl
    rwa [Heap.size_push] at this
  · rintro C v s' Q' E' ⟨⟨m, hm⟩, v₀, hv⟩ hk
    rw [hfrom]
    refine wpAny_assign_Name (wpAny_storeName_cell (c := C + 1) (by simp [compEnvC, relabel, hkind]) hx (by simp [compEnvC, List.lookup_cons]) hv fun h' hc hs => ?_)
    have hns : ∃ m, h'.Ns C m := ⟨m, hm.sameBut hs (Nat.ne_of_lt (Nat.lt_succ_self C))⟩
    exact hk h' _ ⟨hns, _, hc⟩ ⟨hns, hc⟩ fun b o hb e => hs.extBut b o (fun e => hb (by rw [e]; simp)) e
  · simp only [hfrom]; exact h
end
end Mine
end
section
open PySem PySem.W PyProof.Rows PySem.Calls
namespace Mine
set_option maxRecDepth 100000
section
variable {w : World} {A : Around} {E : Value → Shared → Prop} {s : Shared} {mg mb : Str → Option Value}
theorem enterC {K : Frag} {p : Program} {loose : List Str} {Q : Value → Shared → Prop} {name qual : Str} {params : Arguments} {body : List Stmt} {scope : Scope} {dV kV doc pm cdv ct oc : Value} {an od : Option Addr} {osl : Array (Option Value)} {f : Addr} {vs : List Value} {binds : List (Str × Value)}
    (X : K.In s.heap) (T : TopRead p loose mg mb s.heap)
    (ho : K.lookup f = some ⟨oc, od, .func (fnX name qual params body scope [] dV kV doc pm an cdv ct), osl⟩) (hcd : codeIn K cdv qual = true) (hroom : A.depth < recursionLimit)
    (hbind : BindsTo s (fnX name qual params body scope [] dV kV doc pm an cdv ct) ⟨vs, []⟩ binds)
    (hkind : ∀ n, ∀ x ∈ binds, scope.names.lookup x.1 = some .local ∨ (scope.names.lookup x.1 = some .cell ∧ ((cellsFrom n scope.names []).lookup x.1).isSome = true))
    (hnd : ((cellsFrom 0 scope.names []).map (·.1)).Nodup)
    (h : ∀ h₁ tk cells, Fr s.heap s.heap.objs.size h₁ (bindL (envOfC qual scope s.heap.objs.size f cdv).kindOf binds fun _ => none) → News s.heap s.heap.objs.size h₁ cells →
      CellsAre (bindC (envOfC qual scope s.heap.objs.size f cdv).kindOf binds fun _ => none) (cellsFrom (s.heap.objs.size + 1) scope.names []) cells →
      wpAny (model PR w) (A.deeper (envOfC qual scope s.heap.objs.size f cdv)) (execs body (envOfC qual scope s.heap.objs.size f cdv))
        (fun fl s' => Q (match fl with | .ret v => v | _ => .none) s')
        (fun _ _ => False)
        { s with heap := h₁, toks := tk })
    (hco : scope.isCoroutine = false) (hgen : scope.isGenerator = false) (hk : scope.kind = .function) : wpAny (model PR w) A (call (.ref f) vs) Q E s := by
  refine wpAny_call ?_
  refine codeAny_call_function hroom (X _ _ ho) rfl hco hgen rfl (codeRec_of X hcd) (hbind _ _ _ _ ?_)
  refine wpAny_newFunctionEnv_cells hk (hkind _) fun env' he s' x => ?_
  subst he
  refine ⟨T.nolimit.keeps x.toInCall.keep, codeAny_func ?_⟩
  obtain ⟨h₁, tk, rfl, _⟩ := x.done
  have hk₁ := x.toInCall.keep
  obtain ⟨cells, NC, Y⟩ := Cl.news (h₀ := s.heap) (Nat.le_refl _) fun n c hm => ⟨x.cell n c (lookup_of_mem_nodup (cellsFrom_names scope.names 0 (s.heap.objs.size + 1) [] [] rfl ▸ hnd) hm), x.above n c hm⟩
  exact wpAny_mono (h h₁ tk cells ⟨x.toInCall.ns, hk₁, Nat.le_refl _⟩ NC Y) (fun _ _ x => x) (fun _ _ x => x.elim)
end
section
variable {M : Model} {A : Around} {E : Value → Shared → Prop} {s : Shared} {K : Frag} {g : Heap} {C c : Addr} {m mg mb : Str → Option Value} {scope : Scope} {cl : List (Str × Addr)} {env : Env} {p : Program} {loose : List Str} {x : Str} {pos : Pos} {v : Value} {Q : Value → Shared → Prop}
theorem ck_own (F : Fr g C s.heap m) (hx : m x = some v) (h : Q v s)
    (hk : (compEnvC scope cl C env).scope.kind = .function := by rfl) (hl : (compEnvC scope cl C env).kindOf x = some .local := by rfl) (hd : (x == ("__debug__" : Str)) = false := by decide) :
    wpAny M A (eval (.Name x pos) (compEnvC scope cl C env)) Q E s := ldVarK F.ns hx h hk hl hd
theorem ck_global (F : Fr g C s.heap m) (X : K.In g) (T : TopRead p loose mg mb g) (e : nsIn K mainGlobals x = some (some v)) (h : Q v s) (hg : env.globals = mainGlobals := by rfl)
    (hk : (compEnvC scope cl C env).scope.kind = .function := by rfl) (hx : (compEnvC scope cl C env).kindOf x = some .globalImplicit := by rfl) (hd : (x == ("__debug__" : Str)) = false := by decide) :
    wpAny M A (eval (.Name x pos) (compEnvC scope cl C env)) Q E s :=
  Name_function_global hk hx (loadGlobal_global (env := compEnvC scope cl C env) (show s.heap.Ns env.globals mg from hg ▸ (T.g.keeps F.keep)) (mg_of X T.g e) h) hd
theorem ck_built (F : Fr g C s.heap m) (X : K.In g) (T : TopRead p loose mg mb g) (e : nsIn K mainGlobals x = some none) (hv : bootBuiltins x = some v) (hn : x ≠ "__name__") (h : Q v s) (hg : env.globals = mainGlobals := by rfl) (hb : env.builtins = builtinsNs := by rfl)
    (hk : (compEnvC scope cl C env).scope.kind = .function := by rfl) (hx : (compEnvC scope cl C env).kindOf x = some .globalImplicit := by rfl) (hd : (x == ("__debug__" : Str)) = false := by decide) :
    wpAny M A (eval (.Name x pos) (compEnvC scope cl C env)) Q E s :=
  Name_function_global hk hx (loadGlobal_builtin (env := compEnvC scope cl C env) (show s.heap.Ns env.globals mg from hg ▸ (T.g.keeps F.keep)) (mg_none_of X T.g e) (show s.heap.Ns env.builtins mb from hb ▸ (T.b.keeps F.keep)) ((T.builtins x hn).trans hv) h) hd
theorem ck_free (F : Fr g C s.heap m) (hc : cl.lookup x = some c) (hv : g.IsCell c (some v)) (h : Q v s)
    (hk : (compEnvC scope cl C env).scope.kind = .function := by rfl) (hl : (compEnvC scope cl C env).kindOf x = some .free := by rfl) (hd : (x == ("__debug__" : Str)) = false := by decide) (hn : (x == ("__classdict__" : Str)) = false := by decide) :
    wpAny M A (eval (.Name x pos) (compEnvC scope cl C env)) Q E s := ldFreeK hc (hv.keeps F.keep) h hk hl hd hn
theorem ck_cell (F : Fr g C s.heap m) (hc : cl.lookup x = some c) (hv : g.IsCell c (some v)) (h : Q v s)
    (hk : (compEnvC scope cl C env).scope.kind = .function := by rfl) (hl : (compEnvC scope cl C env).kindOf x = some .cell := by rfl) (hd : (x == ("__debug__" : Str)) = false := by decide) :
    wpAny M A (eval (.Name x pos) (compEnvC scope cl C env)) Q E s := ldCellK hc (hv.keeps F.keep) h hk hl hd
end
end Mine
end
section
open PySem PySem.W PyProof.Rows PySem.Calls
namespace Mine
set_option maxRecDepth 100000
set_option maxHeartbeats 8000000
theorem fillK8 : ∀ w : World, (hd.heap_39 w.params).lookup 3 = (hd.heap_39 w.params).lookup 3 ∧ PySem.Challenge.rw_pu0027_01 = PySem.Challenge.rw_pu0027_01 := by
  k_fill
  intro w; exact ⟨rfl, rfl⟩
def mailQ (v tn : Int) (b n : Nat) : Str := ⟨(sub1 true (sub2 (mailRaw v tn b n))).toArray⟩
local macro_rules | `(tactic| walk_at "my casesC") => `(tactic| ((case k6 => k_is); (case k7 => k_is); (case k9 => exact BindsTo.of_eq rfl); (case kB => exact kindsX rfl); (case kD => decide +kernel); (case c2 => exact rfl); (case c3 => exact rfl); (case c4 => exact rfl)))
local macro_rules | `(tactic| walk_at "to call") => `(tactic| repeat ((fail_if_success (show wpAny _ _ (call (Value.ref _) _) _ _ _)); first | (k_unfold; try dsimp only) | walk1 | (dsimp only; walk1)))
local macro_rules | `(tactic| walk_at "to comp") => `(tactic| repeat ((fail_if_success (with_reducible show wpAny _ _ (eval (PySem.Expr.ListComp _ _ _ _) _) _ _ _)); first | (k_unfold; try dsimp only) | walk1 | (dsimp only; walk1)))
local macro_rules | `(tactic| walk_at "to ask") => `(tactic| repeat ((fail_if_success (with_reducible show @Exists _ _)); first | (k_unfold; try dsimp only) | walk1 | (dsimp only; walk1)))
local macro_rules | `(tactic| walk_at "to tail") => `(tactic| repeat ((fail_if_success (show wpAny _ _ (subscriptTail _ _ (Value.ref _) _) _ _ _)); first | (k_unfold; try dsimp only) | walk1 | (dsimp only; walk1)))
local macro_rules | `(tactic| walk_at "to name") => `(tactic| repeat ((fail_if_success (with_reducible show wpAny _ _ (eval (PySem.Expr.Name _ _) _) _ _ _)); first | (k_unfold; try dsimp only) | walk1 | (dsimp only; walk1)))
theorem news_add {h₀ h₁ h' : Heap} {L D : Addr} {m : Str → Option Value} {news : List (Addr × Obj)} {o : Obj} (F : Fr h₀ L h₁ m) (N : News h₀ L h' news) (hD : h₁.get? D = none) (ho : h'.get? D = some o) : News h₀ L h' ((D, o) :: news) := by
  intro p hp
  rcases List.mem_cons.mp hp with rfl | hp
  · refine ⟨ho, ?_, ?_⟩
    · rintro rfl; obtain ⟨oL, _, _, hL, _⟩ := F.ns; rw [hL] at hD; cases hD
    · cases e : h₀.get? D with
      | none => rfl
      | some o' => rw [F.keep _ _ e] at hD; cases hD
  · exact N p hp
theorem ne_fresh {h : Heap} {D c : Addr} {o : Obj} (hD : h.get? D = none) (hc : h.get? c = some o) : @Ne Nat D c := by rintro rfl; rw [hD] at hc; cases hc
def partOf (v : Int) (sp : List (Int × Int)) (i : Nat) : Str := match sp[i]? with
  | some p => mailQ v (v + i + 1) p.1.toNat (p.2 - p.1).toNat
  | none => Str.empty
def ansTxt (v : Int) (sp : List (Int × Int)) (i j : Nat) : Str := Str.ofString "..." ++ partOf v sp i ++ Str.ofString "..." ++ partOf v sp j ++ Str.ofString "..."
theorem mail_specI {w : World} {A : Around} {E : Value → Shared → Prop} {s : Shared} {mg mb : Str → Option Value} {v tn b' e' : Int} {b n : Nat} {t1 t2 t3 t4 : Tok} {Q : Value → Shared → Prop}
    (X : (hd.heap_39 w.params).In s.heap) (T : TopRead hd.view_39 LO mg mb s.heap) (hh : A.handled = none) (hroom : A.depth < recursionLimit) (hroom2 : A.depth + 1 < recursionLimit)
    (hb : b' = (b : Int)) (he : e' = ((b + n : Nat) : Int)) (hbn : b + n ≤ 6)
    (hret : ∀ h' tk tk', Ext s.heap h' → Q (.str (mailQ v tn b n) tk) { s with heap := h', toks := tk' }) :
    wpAny (model PR w) A (call (.ref 89) [.int v t1, .int b' t2, .int e' t3, .int tn t4]) Q E s := by
  subst hb; subst he
  exact mail_spec X T hh hroom hroom2 hbn hret
theorem ans_spec {w : World} {dp un : Nat} {fr : Option (List Env)} {gd : Option (List Code)} {E : Value → Shared → Prop} {s : Shared} {mg mb : Str → Option Value} {v : Int} {a : Addr} {sp : List (Int × Int)} {z : Nat} {t1 t2 : Tok} {f : Nat → Nat → Bool} {Q : Value → Shared → Prop}
    (X : (hd.heap_39 w.params).In s.heap) (T : TopRead hd.view_39 LO mg mb s.heap) (hroom : dp + 3 < recursionLimit)
    (hS : PairsAt s.heap a sp) (hn10 : sp.length ≤ 10) (hv : ∀ p ∈ sp, 0 ≤ p.1 ∧ p.1 ≤ p.2 ∧ p.2 ≤ 6) (hz : z ≤ 6)
    (hpl : ∀ i, i < sp.length → (partOf v sp i).length ≤ 100)
    (hlaw : ∀ i j, i < sp.length → j < sp.length → (ansTxt v sp i j).length ≤ 1000 ∧ (∃ mid, Txt.split (ansTxt v sp i j) (Str.ofString "...") = Str.empty :: (mid ++ [Str.empty])) ∧ Txt.contains (ansTxt v sp i j) (Str.ofString "...") = true ∧ seqFind (mailQ v v 0 z) (Txt.split (ansTxt v sp i j) (Str.ofString "...")) 0 = f i j)
    (hlw : (mailQ v v 0 z).length ≤ 1000)
    (hret : ∀ D h' tk', SquareAt h' D sp.length f → s.heap.get? D = none → Ext s.heap h' → Q (.ref D) { s with heap := h', toks := tk' }) :
    wpAny (model PR w) (At dp fr gd un) (call (.ref 94) [.int v t1, .ref a, .int z t2]) Q E s := by
  refine' enterC (binds := [(Str.ofString "v", .int v t1), (Str.ofString "spans", .ref a), (Str.ofString "size", .int z t2)]) X T ?k6 ?k7 (by show dp < _; omega) ?k9 ?kB ?kD ?_ ?c2 ?c3 ?c4
  walk_at "my casesC"
  intro h' tk' cells' F' N' Y'
  obtain ⟨o1, o2, o3, o4, hE, d1, d2, d3, d4⟩ := CellsAre.four Y'
  subst hE; clear Y'
  replace d1 : o1.data = .cell none := d1
  replace d2 : o2.data = .cell none := d2
  replace d3 : o3.data = .cell (some (.ref a)) := d3
  replace d4 : o4.data = .cell (some (.int v t1)) := d4
  replace F' : Fr s.heap s.heap.objs.size h' (fun y => if y = Str.ofString "size" then some (.int z t2) else none) := F'
  walk_at "to call"
  refine mail_specI (b := 0) (n := z) (Frag.In.keeps X F'.keep) (TopRead.keeps T F'.keep) rfl (by show dp + 1 < _; omega) (by show dp + 1 + 1 < _; omega) rfl (by omega) (by omega) fun h₂ tk₂ tk₂' hx₂ => ?_
  have F2 := Fr.keeps F' hx₂
  have N2 := News.grown N' hx₂
  clear F' N'
  dsimp only
  walk_at "to comp"
  refine comp_local rfl (by with_unfolding_all rfl) rfl (by decide) (by decide) rfl ?_
  obtain ⟨vb, hlb, hvb, hrb⟩ := hS.ex
  have hsz : vb.toArray.size = sp.length := by rw [List.size_toArray, hvb]
  walk_at "to ask"
  rename IsRange _ _ _ _ _ _ _ _ => R
  rw [hsz] at R
  rename Fr _ _ _ _ => F3
  rename News _ _ _ _ => N3
  refine ⟨sp.length, _, fun i y sup => sup = [] ∧ ∃ tk, y = .str (partOf v sp i) tk, Src.range R (by omega), by omega, askL ?elt ?done⟩
  case elt =>
    rintro g C rest m₂ i _ h tk E' hi ⟨t, rfl⟩ hg F4 hm N4
    have X4 := Frag.In.keeps (Frag.In.keeps X F3.keep) hg
    have T4 := TopRead.keeps (TopRead.keeps T F3.keep) hg
    have c3 : g.IsCell (s.heap.objs.size + 1 + 1) (some (.ref a)) := ⟨o3, hg _ _ (N3.get (by simp)), d3⟩
    have c4 : g.IsCell (s.heap.objs.size + 1) (some (.int v t1)) := ⟨o4, hg _ _ (N3.get (by simp)), d4⟩
    have hpi : ∃ p, sp[i]? = some p := ⟨sp[i]'(by omega), by simp [show i < sp.length by omega]⟩
    obtain ⟨p, hp⟩ := hpi
    obtain ⟨T1, t11, t12, hT1, hT1'⟩ := hrb i p hp
    obtain ⟨hp1, hp2, hp3⟩ := hv p (List.mem_of_getElem? hp)
    have hlb4 := hlb.at fun o e => F4.keep _ o (hg _ o (F3.keep _ o e))
    have hT4 := isTup_ext hT1' fun b o e => F4.keep _ o (hg _ o (F3.keep b o e))
    clear hlb hT1' hrb hv hS F3 N3 R hret d1 d2 d3 d4 hx₂
    walk_at "to name"
    refine ck_global F4 X4 T4 (by k_is) ?_
    walk_at "to name"
    refine ck_cell F4 rfl c4 ?_
    walk_at "to name"
    refine ck_cell F4 rfl c3 ?_
    walk_at "to name"
    refine ck_own F4 hm ?_
    walk_at "to tail"
    refine item_at (j := i) hlb4 rfl (by omega) (by simpa using hT1) ?_
    walk_at "to tail"
    refine pair_fst hT4 ?_
    walk_at "to name"
    refine ck_cell F4 rfl c3 ?_
    walk_at "to name"
    refine ck_own F4 hm ?_
    walk_at "to tail"
    refine item_at (j := i) hlb4 rfl (by omega) (by simpa using hT1) ?_
    walk_at "to tail"
    refine pair_snd hT4 ?_
    walk_at "to name"
    refine ck_cell F4 rfl c4 ?_
    walk_at "to name"
    refine ck_own F4 hm ?_
    walk_at "to call"
    refine mail_specI (b := p.1.toNat) (n := (p.2 - p.1).toNat) (Frag.In.keeps X4 F4.keep) (TopRead.keeps T4 F4.keep) rfl (by show dp + 1 < _; omega) (by show dp + 1 + 1 < _; omega) (by omega) (by omega) (by omega) fun h₅ tk₅ tk₅' hx₅ => ?_
    have F5 := Fr.keeps F4 hx₅
    have N5 := News.grown N4 hx₅
    refine ⟨h₅, _, _, _, [], rfl, F5, N5, fun p hp => hp, (fun p hp => nomatch hp), rfl, tk₅, ?_⟩
    simp only [partOf, hp]
  case done =>
    intro D h' tk rs hD hl hlen hG hsup hx
    have F5 := Fr.keeps F3 hx
    obtain ⟨k5, hl5⟩ := hl
    have n1 := ne_fresh hD (N3.get (a := s.heap.objs.size + 1 + 1 + 1 + 1) (o := o1) (by simp))
    have n2 := ne_fresh hD (N3.get (a := s.heap.objs.size + 1 + 1) (o := o3) (by simp))
    have n3 := ne_fresh hD (N3.get (a := s.heap.objs.size + 1) (o := o4) (by simp))
    have N5 := news_add F3 (News.grown N3 hx) hD hl5
    clear hx₂ F3 N3 R
    dsimp only
    walk_at "to comp"
    refine comp_cell rfl (by with_unfolding_all rfl) rfl (by decide) (fun _ => rfl) (fun _ => rfl) rfl ?_
    walk_at "to ask"
    rename Fr _ _ _ _ => F6
    rename News _ _ _ _ => N6
    rename _ = Data.cell (some (Value.ref D)) => dP
    rename _ = Data.cell (some (Value.str (mailQ v v 0 z) tk₂)) => dW
    have harr : ∀ (i : Nat) (y : Value), ((rs.map (·.1)).toArray : Array Value)[i]? = some y → ∃ tk, y = .str (partOf v sp i) tk := by
      intro i y hy
      rw [List.getElem?_toArray, List.getElem?_map] at hy
      cases hr : rs[i]? with
      | none => rw [hr] at hy; cases hy
      | some r => rw [hr] at hy; injection hy with hy; subst hy; exact (hG i r hr).2
    have hasz : ((rs.map (·.1)).toArray : Array Value).size = sp.length := by simp [hlen]
    generalize ((rs.map (·.1)).toArray : Array Value) = arr at *
    have hlD : Heap.IsList _ D arr := ⟨_, N6.get (a := D) (o := { cls := .type "list", data := .seq arr k5 }) (by simp), rfl, k5, rfl⟩
    refine ⟨arr.size, _, fun i y sup => ∃ R k, y = .ref R ∧ sup = [(R, { cls := .type "list", data := .seq ((List.range sp.length).map fun j => Value.bool (f i j)).toArray k })], Src.list hlD, by omega, askC ?elt2 ?done2⟩
    case elt2 =>
      intro g C oc rest m₂ i y h tk E' hi hP hg F7 hoc N7
      obtain ⟨ty, rfl⟩ := harr i y hP
      have X7 := Frag.In.keeps (Frag.In.keeps X F6.keep) hg
      have T7 := TopRead.keeps (TopRead.keeps T F6.keep) hg
      have cP : g.IsCell (s.heap.objs.size + 1 + 1 + 1 + 1) (some (.ref D)) := ⟨_, hg _ _ (N6.get (by simp)), dP⟩
      have cW : g.IsCell (s.heap.objs.size + 1 + 1 + 1) (some (.str (mailQ v v 0 z) tk₂)) := ⟨_, hg _ _ (N6.get (by simp)), dW⟩
      have hl7 : h.IsList D arr := hlD.at fun o e => F7.keep _ o (hg _ o e)
      clear F6 N6 dP dW hlD hret d1 d2 d3 d4
      refine comp_local rfl (by with_unfolding_all rfl) rfl (by decide) (by decide) rfl ?_
      walk_at "to name"
      refine ck_cell F7 rfl cP ?_
      walk_at "to ask"
      refine ⟨arr.size, _, fun j y sup => sup = [] ∧ y = .bool (f i j), Src.list hl7, by omega, askL ?elt3 ?done3⟩
      case elt3 =>
        intro g' C' rest' m' j y h' tk' E' hj hP' hg' F8 hm N8
        obtain ⟨ty', rfl⟩ := harr j y hP'
        have X8 := Frag.In.keeps (Frag.In.keeps X7 F7.keep) hg'
        have T8 := TopRead.keeps (TopRead.keeps T7 F7.keep) hg'
        have cW8 := Heap.IsCell.keeps (Heap.IsCell.keeps cW F7.keep) hg'
        have cO8 : g'.IsCell (C + 1) (some (.str (partOf v sp i) ty)) := ⟨_, hg' _ _ (N7.get (by simp)), hoc⟩
        clear cP hl7 F7 N7
        obtain ⟨hq1, ⟨mid, hq2⟩, hq3, hq4⟩ := hlaw i j (by omega) (by omega)
        have hpi := hpl i (by omega)
        have hpj := hpl j (by omega)
        unfold ansTxt at hq1 hq2 hq3 hq4
        generalize partOf v sp i = pi at *
        generalize partOf v sp j = pj at *
        clear hlaw hpl
        walk_at "to name"
        refine ck_global F8 X8 T8 (by k_is) ?_
        walk_at "to name"
        refine ck_cell F8 rfl cO8 ?_
        walk_at "to name"
        refine ck_own F8 hm ?_
        walk_at "to name"
        refine ck_cell F8 rfl cW8 ?_
        walk_at "to call"
        refine em_spec (Frag.In.keeps X8 F8.keep) (TopRead.keeps T8 F8.keep) (by show dp + 1 < _; omega) hq1 hlw hq2 hq3 fun h₉ tk₉ hx₉ => ?_
        rw [hq4]
        exact ⟨h₉, _, _, _, [], rfl, Fr.keeps F8 hx₉, News.grown N8 hx₉, fun p hp => hp, (fun p hp => nomatch hp), rfl, rfl⟩
      case done3 =>
        intro D3 h3 tk3 rs3 hD3 hl3 hlen3 hG3 hsup3 hx3
        obtain ⟨k3, hl3⟩ := hl3
        have e3 : rs3.map (·.1) = (List.range sp.length).map fun j => Value.bool (f i j) := by
          apply List.ext_getElem?
          intro j
          rw [List.getElem?_map, List.getElem?_map]
          cases hr : rs3[j]? with
          | none => 
            have : rs3.length ≤ j := by simpa using hr
            rw [List.getElem?_eq_none (by rw [List.length_range]; omega)]; rfl
          | some r =>
            have : j < rs3.length := by
              rcases Nat.lt_or_ge j rs3.length with h | h
              · exact h
              · rw [List.getElem?_eq_none h] at hr; cases hr
            rw [List.getElem?_range (by omega)]
            simp only [Option.map_some, (hG3 j r hr).2]
        rw [e3] at hl3
        refine ⟨h3, _, _, _, [(D3, _)], rfl, Fr.keeps F7 hx3, News.grown N7 hx3, fun p hp => hp, ?_, D3, k3, rfl, rfl⟩
        intro p hp
        rw [List.mem_singleton.mp hp]
        exact ⟨hl3, hD3⟩
    case done2 =>
      intro D2 h2 tk2 rs2 hD2 hl2 hlen2 hG2 hsup2 hx2
      have sq : SquareAt h2 D2 sp.length f := by
        refine ⟨rs2.map (·.1), hl2.isList, by simp [hlen2, hasz], fun i hi => ?_⟩
        have hi' : i < rs2.length := by omega
        have hr : rs2[i]? = some rs2[i] := by simp
        obtain ⟨R, k, e1, e2⟩ := hG2 i _ hr
        refine ⟨R, by rw [List.getElem?_map, hr, Option.map_some, e1], ?_⟩
        have := (hsup2 _ (List.getElem_mem hi') (R, _) (by rw [e2]; exact List.mem_singleton.mpr rfl)).1
        exact ⟨k, this⟩
      have hD2' : s.heap.get? D2 = none := by
        cases e : s.heap.get? D2 with
        | none => rfl
        | some o => rw [F6.keep _ _ e] at hD2; cases hD2
      exact hret D2 h2 _ sq hD2' fun b o e => hx2 b o (F6.keep b o e)
end Mine
end
section
open PySem PySem.W PyProof.Rows PySem.Calls
namespace Mine
set_option maxRecDepth 100000
set_option maxHeartbeats 8000000
theorem fillK9 : ∀ w : World, (hd.heap_39 w.params).lookup 3 = (hd.heap_39 w.params).lookup 3 ∧ PySem.Challenge.rw_pu0027_01 = PySem.Challenge.rw_pu0027_01 := by
  k_fill
  intro w; exact ⟨rfl, rfl⟩
theorem noDict_plain {h : Heap} {R : Addr} {arr : Array Value} (x : h.PlainList R arr) : h.NoDictAt (.ref R) := by
  obtain ⟨n, e⟩ := x
  exact ⟨_, e, rfl⟩
section
variable {prog : Program} {w : World} {A : Around} {E : Value → Shared → Prop} {s : Shared}
open PySem.SeqAt in
theorem count_bools {l : Addr} {bs : List Bool} {Q : Value → Shared → Prop} (hl : s.heap.IsList l (bs.map Value.bool).toArray)
    (h : Q (.int (bs.countP id : Nat) s.toks) { s with toks := s.toks + 1 }) : wpAny (model prog w) A (call (.builtin "list.count") [.ref l, .bool true]) Q E s := by
  obtain ⟨⟨cls, dd, data, sl⟩, ho, hc, n, hd⟩ := id hl
  simp only at hc hd
  subst hc hd
  refine call_meets PySem.F.slot_list_count ⟨_, ho, rfl⟩ PySem.F.entry_list_count (PySem.F.args_list_count_2 _ _) (list_countAt l (bs.map Value.bool).toArray n dd sl (.bool true) (isBoolOf true)) ⟨ho, fun y hy => ?_, ?_⟩
  · obtain ⟨b, _, rfl⟩ := List.mem_map.mp (by simpa using hy : y ∈ bs.map Value.bool)
    exact EqAt.bool_bool b true
  · have e : ((bs.map Value.bool).toArray.toList.countP (isBoolOf true)) = bs.countP id := by
      show (bs.map Value.bool).countP (isBoolOf true) = _
      rw [List.countP_map]
      congr 1
      funext b
      show (b == true) = id b
      cases b <;> rfl
    rw [e]; exact h
end
def AllNe (D : Addr) : List (Addr × Obj) → Prop
  | [] => True
  | p :: r => (@Ne Nat D p.1) ∧ AllNe D r
theorem allNe {h₀ h : Heap} {L D : Addr} (hD : h.get? D = none) : ∀ {news : List (Addr × Obj)}, News h₀ L h news → AllNe D news
  | [], _ => trivial
  | p :: r, N => ⟨ne_fresh hD (N p (.head _)).1, allNe hD fun q hq => N q (.tail _ hq)⟩
theorem rs_list {n : Nat} {rs : List (Value × List (Addr × Obj))} {c : Nat → Int} (hlen : rs.length = n) (hG : ∀ i r, rs[i]? = some r → r.2 = [] ∧ ∃ tk, r.1 = Value.int (c i) tk) :
    (rs.map (·.1)).length = n ∧ ∀ i, i < n → ∃ t, (rs.map (·.1))[i]? = some (Value.int (c i) t) := by
  refine ⟨by simp [hlen], fun i hi => ?_⟩
  have hi' : i < rs.length := by omega
  have hr : rs[i]? = some rs[i] := by simp
  obtain ⟨_, t, e⟩ := hG i _ hr
  exact ⟨t, by rw [List.getElem?_map, hr, Option.map_some, e]⟩
theorem pairs_of {h : Heap} {D : Addr} {n : Nat} {rs : List (Value × List (Addr × Obj))} {c : Nat → Int × Int} (hlen : rs.length = n)
    (hG : ∀ (i : Nat) (r : Value × List (Addr × Obj)), rs[i]? = some r → ∃ R t1 t2, r.1 = Value.ref R ∧ r.2 = [(R, { cls := .type "tuple", data := .seq [Value.int (c i).1 t1, Value.int (c i).2 t2].toArray })])
    (hsup : ∀ r ∈ rs, ∀ p ∈ r.2, h.get? p.1 = some p.2) (hl : h.IsList D (rs.map (·.1)).toArray) : PairsAt h D ((List.range n).map c) := by
  refine ⟨rs.map (·.1), hl, by simp [hlen], fun i p hp => ?_⟩
  have hi : i < n := by
    rcases Nat.lt_or_ge i n with h | h
    · exact h
    · rw [List.getElem?_eq_none (by simp; exact h)] at hp; cases hp
  rw [List.getElem?_map, List.getElem?_range hi] at hp
  injection hp with hp
  have hi' : i < rs.length := by omega
  have hr : rs[i]? = some rs[i] := by simp
  obtain ⟨R, t1, t2, e1, e2⟩ := hG i _ hr
  refine ⟨R, t1, t2, by rw [List.getElem?_map, hr, Option.map_some, e1], ?_⟩
  have := hsup _ (List.getElem_mem hi') (R, _) (by rw [e2]; exact List.mem_singleton.mpr rfl)
  rw [← hp]
  exact ⟨_, this, rfl, _, rfl⟩
theorem intsAre_of_get : ∀ {vs : List Value} {ns : List Int}, vs.length = ns.length → (∀ (i : Nat) (v : Value) (k : Int), vs[i]? = some v → ns[i]? = some k → ∃ t, v = .int k t) → IntsAre vs ns
  | [], [], _, _ => .nil
  | [], _ :: _, h, _ => by cases h
  | _ :: _, [], h, _ => by cases h
  | v :: vs, k :: ns, h, hg => by
    obtain ⟨t, rfl⟩ := hg 0 v k rfl rfl
    exact .cons k t (intsAre_of_get (by simpa using h) fun i v k hv hk => hg (i + 1) v k (by simpa using hv) (by simpa using hk))
theorem intsAre_range {vs : List Value} {n : Nat} {c : Nat → Int} (hl : vs.length = n) (hg : ∀ i, i < n → ∃ t, vs[i]? = some (Value.int (c i) t)) : IntsAre vs ((List.range n).map c) := by
  refine intsAre_of_get (by simp [hl]) fun i v k hv hk => ?_
  rw [List.getElem?_map] at hk
  have hi : i < n := by
    rcases Nat.lt_or_ge i n with h | h
    · exact h
    · rw [List.getElem?_eq_none (by omega)] at hv; cases hv
  rw [List.getElem?_range hi] at hk
  obtain ⟨t, e⟩ := hg i hi
  rw [e] at hv
  injection hv with hv; injection hk with hk
  exact ⟨t, by rw [← hv, ← hk]⟩
def aheadC (n : Nat) (f : Nat → Nat → Bool) (e : Nat) : Int := (((List.range n).map fun i => f i e).countP id : Nat)
def behindC (n : Nat) (f : Nat → Nat → Bool) (e : Nat) : Int := (((List.range n).map fun j => f e j).countP id : Nat)
def aheadL (n : Nat) (f : Nat → Nat → Bool) : List Int := (List.range n).map (aheadC n f)
def behindL (n : Nat) (f : Nat → Nat → Bool) : List Int := (List.range n).map (behindC n f)
def toldP (n : Nat) (f : Nat → Nat → Bool) (e : Nat) : Int × Int :=
  (((unlike (aheadL n f)).countP fun y => decide (y < aheadC n f e) : Nat), ((unlike (behindL n f)).length : Int) - ((unlike (behindL n f)).countP fun y => decide (y < behindC n f e) : Nat))
def told (n : Nat) (f : Nat → Nat → Bool) : List (Int × Int) := (List.range n).map (toldP n f)
theorem unlike_inv (cs : List Int) : (unlike cs).Pairwise (· ≤ ·) ∧ (unlike cs).length ≤ cs.length := by
  suffices h : ∀ (cs rs : List Int), rs.Pairwise (· ≤ ·) → (cs.foldl stepU rs).Pairwise (· ≤ ·) ∧ (cs.foldl stepU rs).length ≤ rs.length + cs.length by
    have := h cs [] List.Pairwise.nil
    simpa [unlike] using this
  intro cs
  induction cs with
  | nil => intro rs h; exact ⟨h, by simp⟩
  | cons c cs ih =>
    intro rs h
    obtain ⟨h1, h2⟩ := ih (stepU rs c) (stepU_sorted h c)
    refine ⟨h1, ?_⟩
    have := stepU_length rs c
    rw [List.foldl_cons, List.length_cons]
    omega
local macro_rules | `(tactic| walk_at "my casesC") => `(tactic| ((case k6 => k_is); (case k7 => k_is); (case k9 => exact BindsTo.of_eq rfl); (case kB => exact kindsX rfl); (case kD => decide +kernel); (case c2 => exact rfl); (case c3 => exact rfl); (case c4 => exact rfl)))
local macro_rules | `(tactic| walk_at "to call") => `(tactic| repeat ((fail_if_success (show wpAny _ _ (call (Value.ref _) _) _ _ _)); first | (k_unfold; try dsimp only) | walk1 | (dsimp only; walk1)))
local macro_rules | `(tactic| walk_at "to builtin") => `(tactic| repeat ((fail_if_success (show wpAny _ _ (call (Value.builtin _) _) _ _ _)); first | (k_unfold; try dsimp only) | walk1 | (dsimp only; walk1)))
local macro_rules | `(tactic| walk_at "to comp") => `(tactic| repeat ((fail_if_success (with_reducible show wpAny _ _ (eval (PySem.Expr.ListComp _ _ _ _) _) _ _ _)); first | (k_unfold; try dsimp only) | walk1 | (dsimp only; walk1)))
local macro_rules | `(tactic| walk_at "to ask") => `(tactic| repeat ((fail_if_success (with_reducible show @Exists _ _)); first | (k_unfold; try dsimp only) | walk1 | (dsimp only; walk1)))
local macro_rules | `(tactic| walk_at "to tail") => `(tactic| repeat ((fail_if_success (show wpAny _ _ (subscriptTail _ _ (Value.ref _) _) _ _ _)); first | (k_unfold; try dsimp only) | walk1 | (dsimp only; walk1)))
local macro_rules | `(tactic| walk_at "to meth") => `(tactic| repeat ((fail_if_success (show wpAny _ _ (getMethod _ _ _) _ _ _)); first | (k_unfold; try dsimp only) | walk1 | (dsimp only; walk1)))
local macro_rules | `(tactic| walk_at "to name") => `(tactic| repeat ((fail_if_success (with_reducible show wpAny _ _ (eval (PySem.Expr.Name _ _) _) _ _ _)); first | (k_unfold; try dsimp only) | walk1 | (dsimp only; walk1)))
theorem sq_spec {w : World} {dp un : Nat} {fr : Option (List Env)} {gd : Option (List Code)} {E : Value → Shared → Prop} {s : Shared} {mg mb : Str → Option Value} {a : Addr} {n : Nat} {f : Nat → Nat → Bool} {Q : Value → Shared → Prop}
    (X : (hd.heap_39 w.params).In s.heap) (T : TopRead hd.view_39 LO mg mb s.heap) (hroom : dp + 3 < recursionLimit)
    (hA : SquareAt s.heap a n f) (hn10 : n ≤ 10)
    (hret : ∀ D h' tk', PairsAt h' D (told n f) → s.heap.get? D = none → Ext s.heap h' → Q (.ref D) { s with heap := h', toks := tk' }) :
    wpAny (model PR w) (At dp fr gd un) (call (.ref 106) [.ref a]) Q E s := by
  refine' enterC (binds := [(Str.ofString "answers", .ref a)]) X T ?k6 ?k7 (by show dp < _; omega) ?k9 ?kB ?kD ?_ ?c2 ?c3 ?c4
  walk_at "my casesC"
  intro h' tk' cells' F' N' Y'
  obtain ⟨o1, o2, o3, o4, o5, hE, d1, d2, d3, d4, d5⟩ := kc_five Y'
  subst hE; clear Y'
  replace d1 : o1.data = .cell none := d1
  replace d2 : o2.data = .cell none := d2
  replace d3 : o3.data = .cell none := d3
  replace d4 : o4.data = .cell none := d4
  replace d5 : o5.data = .cell (some (.ref a)) := d5
  replace F' : Fr s.heap s.heap.objs.size h' (fun y => none) := F'
  obtain ⟨va, hla, hva, hra⟩ := hA.ex
  have hsz : va.toArray.size = n := by rw [List.size_toArray, hva]
  walk_at "to comp"
  refine comp_cell rfl (by with_unfolding_all rfl) rfl (by decide) (fun _ => rfl) (fun _ => rfl) rfl ?_
  walk_at "to ask"
  rename IsRange _ _ _ _ _ _ _ _ => R
  rw [hsz] at R
  rename Fr _ _ _ _ => F3
  rename News _ _ _ _ => N3
  refine ⟨n, _, fun i y sup => sup = [] ∧ ∃ tk, y = .int (aheadC n f i) tk, Src.range R (by omega), by omega, askC ?elt ?done⟩
  case elt =>
    rintro g C oc rest m₂ i _ h tk E' hi ⟨t, rfl⟩ hg F7 hoc N7
    have X7 := Frag.In.keeps (Frag.In.keeps X F3.keep) hg
    have T7 := TopRead.keeps (TopRead.keeps T F3.keep) hg
    have c5 : g.IsCell (s.heap.objs.size + 1) (some (.ref a)) := ⟨_, hg _ _ (N3.get (by simp)), d5⟩
    have hl7 : h.IsList a va.toArray := hla.at fun o e => F7.keep _ o (hg _ o (F3.keep _ o e))
    have up7 : ∀ b o, s.heap.get? b = some o → h.get? b = some o := fun b o e => F7.keep _ o (hg _ o (F3.keep _ o e))
    clear F3 N3 R hret d1 d2 d3 d4 d5
    walk_at "to comp"
    refine comp_local rfl (by with_unfolding_all rfl) rfl (by decide) (by decide) rfl ?_
    walk_at "to name"
    refine ck_cell F7 rfl c5 ?_
    walk_at "to ask"
    refine ⟨va.toArray.size, _, fun j y sup => sup = [] ∧ y = .bool (f j i), Src.list hl7, by omega, askL ?elt3 ?done3⟩
    case elt3 =>
      intro g' C' rest' m' j y h' tk' E' hj hP' hg' F8 hm N8
      obtain ⟨R, hR1, hR2⟩ := hra j (by omega)
      rw [List.getElem?_toArray, hR1] at hP'
      injection hP' with hP'
      subst hP'
      have hR8 : h'.IsList R _ := hR2.isList.at fun o e => F8.keep _ o (hg' _ o (up7 _ o e))
      have cO8 : g'.IsCell (C + 1) (some (.int (i : Int) t)) := ⟨_, hg' _ _ (N7.get (by simp)), hoc⟩
      clear hl7 F7 N7 hR2
      walk_at "to name"
      refine ck_own F8 hm ?_
      walk_at "to name"
      refine ck_cell F8 rfl cO8 ?_
      walk_at "to tail"
      refine item_at (j := i) hR8 rfl (by omega) (v := .bool (f j i)) (by simp [hi]) ?_
      exact ⟨h', _, _, _, [], rfl, F8, N8, fun p hp => hp, (fun p hp => nomatch hp), rfl, rfl⟩
    case done3 =>
      intro D3 h3 tk3 rs3 hD3 hl3 hlen3 hG3 hsup3 hx3
      have e3 : rs3.map (·.1) = ((List.range n).map fun j => f j i).map Value.bool := by
        rw [List.map_map]
        apply List.ext_getElem?
        intro j
        rw [List.getElem?_map, List.getElem?_map]
        cases hr : rs3[j]? with
        | none =>
          have : rs3.length ≤ j := by simpa using hr
          rw [List.getElem?_eq_none (by rw [List.length_range]; omega)]; rfl
        | some r =>
          have : j < rs3.length := by
            rcases Nat.lt_or_ge j rs3.length with h | h
            · exact h
            · rw [List.getElem?_eq_none h] at hr; cases hr
          rw [List.getElem?_range (by omega)]
          simp only [Option.map_some, (hG3 j r hr).2, Function.comp_apply]
      rw [e3] at hl3
      have F9 := Fr.keeps F7 hx3
      have N9 := News.grown N7 hx3
      dsimp only
      walk_at "to meth"
      with_unfolding_all refine getMethod_list_of PySem.F.slot_list_count PySem.F.type_list_count hl3.isList (noDict_plain hl3) ?_
      walk_at "to builtin"
      refine count_bools hl3.isList ?_
      exact ⟨h3, _, _, _, [], rfl, F9, N9, fun p hp => hp, (fun p hp => nomatch hp), rfl, _, rfl⟩
  case done =>
    intro D h' tk rs hD hl hlen hG hsup hx
    have F5 := Fr.keeps F3 hx
    obtain ⟨k5, hl5⟩ := hl
    obtain ⟨hAl, hAi⟩ := rs_list hlen hG
    have hne := allNe hD N3
    dsimp only [AllNe] at hne
    obtain ⟨n1, n2, n3, n4, n5, _⟩ := hne
    have N5 := news_add F3 (News.grown N3 hx) hD hl5
    clear F3 N3 R hx hD hl5 hG hsup hlen
    generalize rs.map (·.1) = vA at *
    dsimp only
    walk_at "to comp"
    refine comp_local rfl (by with_unfolding_all rfl) rfl (by decide) (by decide) rfl ?_
    walk_at "to ask"
    rename Fr _ _ _ _ => F6
    rename News _ _ _ _ => N6
    rename _ = Data.cell (some (Value.ref D)) => d4
    have hla6 := hla.at fun o e => F6.keep _ o e
    refine ⟨va.toArray.size, _, fun i y sup => sup = [] ∧ ∃ tk, y = .int (behindC n f i) tk, Src.list hla6, by omega, askL ?elt4 ?done4⟩
    case elt4 =>
      intro g' C' rest' m' j y h' tk' E' hj hP' hg' F8 hm N8
      obtain ⟨R, hR1, hR2⟩ := hra j (by omega)
      rw [List.getElem?_toArray, hR1] at hP'
      injection hP' with hP'
      subst hP'
      rw [show ((List.range n).map fun k => Value.bool (f j k)) = ((List.range n).map fun k => f j k).map Value.bool from by rw [List.map_map]; rfl] at hR2
      have hR8 : h'.PlainList R _ := hR2.at fun o e => F8.keep _ o (hg' _ o (F6.keep _ o e))
      clear F6 N6 hR2 hla6 hra hret
      walk_at "to name"
      refine ck_own F8 hm ?_
      walk_at "to meth"
      with_unfolding_all refine getMethod_list_of PySem.F.slot_list_count PySem.F.type_list_count hR8.isList (noDict_plain hR8) ?_
      walk_at "to builtin"
      refine count_bools hR8.isList ?_
      exact ⟨h', _, _, _, [], rfl, F8, N8, fun p hp => hp, (fun p hp => nomatch hp), rfl, _, rfl⟩
    case done4 =>
      intro D2 h2 tk2 rs2 hD2 hl2 hlen2 hG2 hsup2 hx2
      rw [hsz] at hlen2
      obtain ⟨k6, hl6⟩ := hl2
      obtain ⟨hBl, hBi⟩ := rs_list hlen2 hG2
      have hne := allNe hD2 N6
      dsimp only [AllNe] at hne
      obtain ⟨m0, m1, m2, m3, m4, m5, _⟩ := hne
      have F7 := Fr.keeps F6 hx2
      have N7 := news_add F6 (News.grown N6 hx2) hD2 hl6
      clear F6 N6 hx2 hD2 hl6 hG2 hsup2 hlen2 hla6
      generalize rs2.map (·.1) = vB at *
      dsimp only
      walk_at "to call"
      rename Fr _ _ _ _ => F8
      rename News _ _ _ _ => N8
      rename _ = Data.cell (some (Value.ref D2)) => d3
      have hA8 : Heap.IsList _ D vA.toArray := ⟨_, N8.get (a := D) (o := { cls := .type "list", data := .seq vA.toArray k5 }) (by simp), rfl, k5, rfl⟩
      refine un_spec (cs := aheadL n f) (Frag.In.keeps X F8.keep) (TopRead.keeps T F8.keep) (by show dp + 1 + 2 < _; omega) hA8 (intsAre_range hAl hAi) (by simp [aheadL, hn10]) fun D3 yF k7 h3 tk3 hl7 hF hD3 hx3 => ?_
      have hne := allNe hD3 N8
      dsimp only [AllNe] at hne
      obtain ⟨p00, p0, p1, p2, p3, p4, p5, _⟩ := hne
      have F9 := Fr.keeps F8 hx3
      have N9 := news_add F8 (News.grown N8 hx3) hD3 hl7
      clear F8 N8 hx3 hD3 hl7 hA8
      dsimp only
      walk_at "to call"
      rename Fr _ _ _ _ => F10
      rename News _ _ _ _ => N10
      rename _ = Data.cell (some (Value.ref D3)) => d2
      have hB10 : Heap.IsList _ D2 vB.toArray := ⟨_, N10.get (a := D2) (o := { cls := .type "list", data := .seq vB.toArray k6 }) (by simp), rfl, k6, rfl⟩
      refine un_spec (cs := behindL n f) (Frag.In.keeps X F10.keep) (TopRead.keeps T F10.keep) (by show dp + 1 + 2 < _; omega) hB10 (intsAre_range hBl hBi) (by simp [behindL, hn10]) fun D4 yL k8 h4 tk4 hl8 hL hD4 hx4 => ?_
      have hne := allNe hD4 N10
      dsimp only [AllNe] at hne
      obtain ⟨q000, q00, q0, q1, q2, q3, q4, q5, _⟩ := hne
      have F11 := Fr.keeps F10 hx4
      have N11 := news_add F10 (News.grown N10 hx4) hD4 hl8
      clear F10 N10 hx4 hD4 hl8 hB10
      dsimp only
      walk_at "to comp"
      refine comp_local rfl (by with_unfolding_all rfl) rfl (by decide) (by decide) rfl ?_
      walk_at "to ask"
      rename IsRange _ _ _ _ _ _ _ _ => R
      rw [hva] at R
      rename Fr _ _ _ _ => F12
      rename News _ _ _ _ => N12
      rename _ = Data.cell (some (Value.ref D4)) => d1
      have hUA := unlike_inv (aheadL n f)
      have hUB := unlike_inv (behindL n f)
      have hla' : (aheadL n f).length = n := by simp [aheadL]
      have hlb' : (behindL n f).length = n := by simp [behindL]
      rename IntsAre yF _ => hF
      rename IntsAre yL _ => hL
      refine ⟨n, _, fun i y sup => ∃ R t1 t2, y = .ref R ∧ sup = [(R, { cls := .type "tuple", data := .seq [Value.int (toldP n f i).1 t1, Value.int (toldP n f i).2 t2].toArray })], Src.range R (by omega), by omega, askL ?elt5 ?done5⟩
      case elt5 =>
        rintro g C rest m₂ i _ h tk E' hi ⟨t, rfl⟩ hg F7 hm N7
        have X7 := Frag.In.keeps (Frag.In.keeps X F12.keep) hg
        have T7 := TopRead.keeps (TopRead.keeps T F12.keep) hg
        have cL : g.IsCell (s.heap.objs.size + 1 + 1 + 1 + 1 + 1) (some (.ref D4)) := ⟨_, hg _ _ (N12.get (.tail _ (.tail _ (.tail _ (.tail _ (.head _)))))), d1⟩
        have cF : g.IsCell (s.heap.objs.size + 1 + 1 + 1 + 1) (some (.ref D3)) := ⟨_, hg _ _ (N12.get (.tail _ (.tail _ (.tail _ (.tail _ (.tail _ (.head _))))))), d2⟩
        have cB : g.IsCell (s.heap.objs.size + 1 + 1 + 1) (some (.ref D2)) := ⟨_, hg _ _ (N12.get (.tail _ (.tail _ (.tail _ (.tail _ (.tail _ (.tail _ (.head _)))))))), d3⟩
        have cA : g.IsCell (s.heap.objs.size + 1 + 1) (some (.ref D)) := ⟨_, hg _ _ (N12.get (.tail _ (.tail _ (.tail _ (.tail _ (.tail _ (.tail _ (.tail _ (.head _))))))))), d4⟩
        have gL : h.IsList D4 yL.toArray := ⟨_, F7.keep _ _ (hg _ _ (N12.get (.head _))), rfl, k8, rfl⟩
        have gF : h.IsList D3 yF.toArray := ⟨_, F7.keep _ _ (hg _ _ (N12.get (.tail _ (.head _)))), rfl, k7, rfl⟩
        have gB : h.IsList D2 vB.toArray := ⟨_, F7.keep _ _ (hg _ _ (N12.get (.tail _ (.tail _ (.head _))))), rfl, k6, rfl⟩
        have gA : h.IsList D vA.toArray := ⟨_, F7.keep _ _ (hg _ _ (N12.get (.tail _ (.tail _ (.tail _ (.head _)))))), rfl, k5, rfl⟩
        obtain ⟨tA, eA⟩ := hAi i hi
        obtain ⟨tB, eB⟩ := hBi i hi
        clear F12 N12 R hret d1 d2 d3 d4 d5 hra hla hA
        walk_at "to name"
        refine ck_global F7 X7 T7 (by k_is) ?_
        walk_at "to name"
        refine ck_cell F7 rfl cF ?_
        walk_at "to name"
        refine ck_cell F7 rfl cA ?_
        walk_at "to name"
        refine ck_own F7 hm ?_
        walk_at "to tail"
        refine item_at (j := i) gA rfl (by omega) (by rw [List.getElem?_toArray]; exact eA) ?_
        walk_at "to call"
        refine bl_spec (ns := unlike (aheadL n f)) (Frag.In.keeps X7 F7.keep) (TopRead.keeps T7 F7.keep) (by show dp + 1 < _; omega) gF hF (by omega) (sorted_pw.mpr hUA.1) fun h₁ tk₁ tk₁' hx₁ => ?_
        have F8 := Fr.keeps F7 hx₁
        have N8 := News.grown N7 hx₁
        have gL8 := gL.at fun o e => hx₁ _ o e
        have gB8 := gB.at fun o e => hx₁ _ o e
        clear F7 N7 gL gF gB gA
        dsimp only
        walk_at "to name"
        refine ck_built F8 X7 T7 (by k_is) (by boot_by_name) (by decide) ?_
        walk_at "to name"
        refine ck_cell F8 rfl cL ?_
        walk_at "to name"
        refine ck_global F8 X7 T7 (by k_is) ?_
        walk_at "to name"
        refine ck_cell F8 rfl cL ?_
        walk_at "to name"
        refine ck_cell F8 rfl cB ?_
        walk_at "to name"
        refine ck_own F8 hm ?_
        walk_at "to tail"
        refine item_at (j := i) gB8 rfl (by omega) (by rw [List.getElem?_toArray]; exact eB) ?_
        walk_at "to call"
        refine bl_spec (ns := unlike (behindL n f)) (Frag.In.keeps X7 F8.keep) (TopRead.keeps T7 F8.keep) (by show dp + 1 < _; omega) gL8 hL (by omega) (sorted_pw.mpr hUB.1) fun h₂ tk₂ tk₂' hx₂ => ?_
        have F9 := Fr.keeps F8 hx₂
        have N9 := News.grown N8 hx₂
        clear F8 N8 gL8 gB8
        dsimp only
        repeat ((fail_if_success (show wpAny _ _ (newTuple _) _ _ _)); first | (k_unfold; try dsimp only) | walk1 | (dsimp only; walk1))
        refine newTuple_N F9 N9 fun h₆ F6 N6 => ?_
        refine ⟨h₆, _, _, _, [(h₂.objs.size, _)], rfl, F6, N6, fun p hp => .tail _ hp, ?_, _, tk₁, tk₂', rfl, rfl⟩
        intro p hp
        rw [List.mem_singleton.mp hp]
        refine ⟨N6.get (.head _), ?_⟩
        cases e : h.get? h₂.objs.size with
        | none => rfl
        | some o => exact absurd (Heap.lt_size (hx₂ _ _ (hx₁ _ _ e))) (Nat.lt_irrefl _)
      case done5 =>
        intro D5 h5 tk5 rs5 hD5 hl5 hlen5 hG5 hsup5 hx5
        have hD5' : s.heap.get? D5 = none := by
          cases e : s.heap.get? D5 with
          | none => rfl
          | some o => rw [F12.keep _ _ e] at hD5; cases hD5
        exact hret D5 h5 _ (pairs_of hlen5 hG5 (fun r hr p hp => (hsup5 r hr p hp).1) hl5.isList) hD5' fun b o e => hx5 b o (F12.keep b o e)
end Mine
end
section
open PySem PySem.W PyProof.Rows PySem.Calls
namespace Mine
set_option maxRecDepth 100000
set_option maxHeartbeats 8000000
theorem fillK10 : ∀ w : World, (hd.heap_39 w.params).lookup 3 = (hd.heap_39 w.params).lookup 3 ∧ PySem.Challenge.rw_pu0027_01 = PySem.Challenge.rw_pu0027_01 := by
  k_fill
  intro w; exact ⟨rfl, rfl⟩
local macro_rules | `(tactic| walk_at "my casesC") => `(tactic| ((case k6 => k_is); (case k7 => k_is); (case k9 => exact BindsTo.of_eq rfl); (case kB => exact kindsX rfl); (case kD => decide +kernel); (case c2 => exact rfl); (case c3 => exact rfl); (case c4 => exact rfl)))
local macro_rules | `(tactic| walk_at "to iter") => `(tactic| repeat ((fail_if_success (show wpAny _ _ (pyIter _) _ _ _)); first | (k_unfold; try dsimp only) | walk1 | (dsimp only; walk1)))
local macro_rules | `(tactic| walk_at "to comp") => `(tactic| repeat ((fail_if_success (with_reducible show wpAny _ _ (eval (PySem.Expr.ListComp _ _ _ _) _) _ _ _)); first | (k_unfold; try dsimp only) | walk1 | (dsimp only; walk1)))
local macro_rules | `(tactic| walk_at "to ask") => `(tactic| repeat ((fail_if_success (with_reducible show @Exists _ _)); first | (k_unfold; try dsimp only) | walk1 | (dsimp only; walk1)))
local macro_rules | `(tactic| walk_at "to tail") => `(tactic| repeat ((fail_if_success (show wpAny _ _ (subscriptTail _ _ (Value.ref _) _) _ _ _)); first | (k_unfold; try dsimp only) | walk1 | (dsimp only; walk1)))
local macro_rules | `(tactic| walk_at "to name") => `(tactic| repeat ((fail_if_success (with_reducible show wpAny _ _ (eval (PySem.Expr.Name _ _) _) _ _ _)); first | (k_unfold; try dsimp only) | walk1 | (dsimp only; walk1)))
local macro_rules | `(tactic| walk_at "to len") => `(tactic| repeat ((fail_if_success (show wpAny _ _ (call (Value.builtin "len") _) _ _ _)); first | (k_unfold; try dsimp only) | walk1 | (dsimp only; walk1)))
local macro_rules | `(tactic| walk_at "to mult") => `(tactic| repeat ((fail_if_success (show wpAny _ _ (binaryOp Operator.Mult _ _) _ _ _)); first | (k_unfold; try dsimp only) | walk1 | (dsimp only; walk1)))
local macro_rules | `(tactic| walk_at "to set") => `(tactic| repeat ((fail_if_success (show wpAny _ _ (setItem _ _ _) _ _ _)); first | (k_unfold; try dsimp only) | walk1 | (dsimp only; walk1)))
local macro_rules | `(tactic| walk_at "to step") => `(tactic| repeat ((fail_if_success (show LoopStepU _ _ _ _ _ _ _ _)); first | (k_unfold; try dsimp only) | walk1 | (dsimp only; walk1)))
theorem upd_mid {D : Addr} {o o' : Obj} : ∀ {pre post : List (Addr × Obj)}, (∀ p ∈ pre, p.1 ≠ D) → (∀ p ∈ post, p.1 ≠ D) → Upd D o o' (pre ++ (D, o) :: post) (pre ++ (D, o') :: post)
  | [], _, _, h2 => .head h2
  | _ :: _, _, h1, h2 => .tail (h1 _ (.head _)) (upd_mid (fun p hp => h1 p (.tail _ hp)) h2)
theorem news_skip {h₀ h : Heap} {L : Addr} {p q : Addr × Obj} {r : List (Addr × Obj)} (N : News h₀ L h (p :: q :: r)) : News h₀ L h (p :: r) := fun x hx => by
  rcases List.mem_cons.mp hx with rfl | hx
  · exact N _ (.head _)
  · exact N _ (.tail _ (.tail _ hx))
theorem ints_zero (n : Nat) (t : Tok) : IntsAre (List.replicate (n : Int).toNat [Value.int 0 t]).flatten (List.replicate n 0) := by
  rw [Int.toNat_natCast]
  induction n with
  | zero => exact .nil
  | succ n ih => rw [List.replicate_succ, List.replicate_succ, List.flatten_cons]; exact .cons 0 t ih
theorem news_zero {h₀ h : Heap} {L D : Addr} {n k : Nat} {t : Tok} {r : List (Addr × Obj)} (N : News h₀ L h ((D, listOf (List.replicate (n : Int).toNat [Value.int 0 t]).flatten.toArray k) :: r)) : ∃ vs, IntsAre vs (List.replicate n 0) ∧ News h₀ L h ((D, listOf vs.toArray k) :: r) := ⟨_, ints_zero n t, N⟩
/-- the walk over the borders -/
structure WS where
  bs : List Int
  es : List Int
  lv : Int
  ov : Bool
def stE (sp : List (Int × Int)) (b : Nat) (st : WS) (e : Nat) : WS := if (sp.getD e (0, 0)).2 = (b : Int) then ⟨st.bs, st.es.set e (st.lv + 1), st.lv, true⟩ else st
def stB (sp : List (Int × Int)) (b : Nat) (st : WS) (e : Nat) : WS :=
  if (sp.getD e (0, 0)).1 = (b : Int) then (if st.ov then ⟨st.bs.set e (st.lv + 1), st.es, st.lv + 1, false⟩ else ⟨st.bs.set e st.lv, st.es, st.lv, st.ov⟩) else st
def wkE (sp : List (Int × Int)) (b : Nat) (st : WS) (k : Nat) : WS := (List.range k).foldl (stE sp b) st
def wkB (sp : List (Int × Int)) (b : Nat) (st : WS) (k : Nat) : WS := (List.range k).foldl (stB sp b) st
def wkRow (sp : List (Int × Int)) (n : Nat) (st : WS) (b : Nat) : WS := wkB sp b (wkE sp b st n) n
def wkAt (sp : List (Int × Int)) (n k : Nat) : WS := (List.range k).foldl (wkRow sp n) ⟨List.replicate n 0, List.replicate n 0, -1, true⟩
def walked (sp : List (Int × Int)) (n : Nat) : List (Int × Int) := (List.range n).map fun e => ((wkAt sp n 7).bs.getD e 0, (wkAt sp n 7).es.getD e 0)
theorem wkE_succ (sp : List (Int × Int)) (b : Nat) (st : WS) (k : Nat) : wkE sp b st (k + 1) = stE sp b (wkE sp b st k) k := by unfold wkE; rw [List.range_succ, List.foldl_append]; rfl
theorem wkB_succ (sp : List (Int × Int)) (b : Nat) (st : WS) (k : Nat) : wkB sp b st (k + 1) = stB sp b (wkB sp b st k) k := by unfold wkB; rw [List.range_succ, List.foldl_append]; rfl
theorem wkAt_succ (sp : List (Int × Int)) (n k : Nat) : wkAt sp n (k + 1) = wkRow sp n (wkAt sp n k) k := by unfold wkAt; rw [List.range_succ, List.foldl_append]; rfl
/-- what the walk over the borders keeps -/
def WInv (n : Nat) (a D4 D2 cE cB : Addr) (oE oB : Obj) (st : WS) (bv ev : Option Value) (pre : List (Addr × Obj)) (m : Str → Option Value) (news : List (Addr × Obj)) : Prop :=
  ∃ vB vE tl, IntsAre vB st.bs ∧ IntsAre vE st.es ∧ st.bs.length = n ∧ st.es.length = n ∧ news = pre ++ [(D4, listOf vE.toArray 0), (D2, listOf vB.toArray 0), (cE, oE), (cB, oB)] ∧
    m = fmap [(Str.ofString "spans", some (.ref a)), (Str.ofString "level", some (.int st.lv tl)), (Str.ofString "over", some (.bool st.ov)), (Str.ofString "border", bv), (Str.ofString "e", ev)]
theorem name_cells {h₀ h : Heap} {L c c' : Addr} {p q : Addr × Obj} {o o' : Obj} {x y : Data} (e : o.data = x) (e' : o'.data = y) (N : News h₀ L h ([p, q] ++ [(c, o), (c', o')])) : ∃ oE oB : Obj, oE.data = x ∧ oB.data = y ∧ News h₀ L h [p, q, (c, oE), (c', oB)] := ⟨o, o', e, e', N⟩
theorem name_set {h₀ h : Heap} {L D : Addr} {x : List Value} {ns : List Int} {pre post : List (Addr × Obj)} (hi : IntsAre x ns) (N : News h₀ L h (pre ++ (D, listOf x.toArray 0) :: post)) : ∃ v, IntsAre v ns ∧ News h₀ L h (pre ++ (D, listOf v.toArray 0) :: post) := ⟨x, hi, N⟩
theorem intsAre_at : ∀ {vs : List Value} {ns : List Int}, IntsAre vs ns → ∀ i, i < ns.length → ∃ t, vs[i]? = some (Value.int (ns.getD i 0) t)
  | _, _, .nil, _, h => absurd h (Nat.not_lt_zero _)
  | _, _, .cons k t _, 0, _ => ⟨t, rfl⟩
  | _, _, .cons _ _ r, i + 1, h => by
    obtain ⟨t, e⟩ := intsAre_at r i (Nat.lt_of_succ_lt_succ h)
    exact ⟨t, by simpa using e⟩
theorem wk_spec {w : World} {dp un : Nat} {fr : Option (List Env)} {gd : Option (List Code)} {E : Value → Shared → Prop} {s : Shared} {mg mb : Str → Option Value} {a : Addr} {n : Nat} {sp : List (Int × Int)} {Q : Value → Shared → Prop}
    (X : (hd.heap_39 w.params).In s.heap) (T : TopRead hd.view_39 LO mg mb s.heap) (hroom : dp + 3 < recursionLimit)
    (hS : PairsAt s.heap a sp) (hn : sp.length = n) (hn1 : 1 ≤ n) (hn10 : n ≤ 10)
    (hret : ∀ D h' tk', PairsAt h' D (walked sp n) → s.heap.get? D = none → Ext s.heap h' → Q (.ref D) { s with heap := h', toks := tk' }) :
    wpAny (model PR w) (At dp fr gd un) (call (.ref 111) [.ref a]) Q E s := by
  refine' enterC (binds := [(Str.ofString "spans", .ref a)]) X T ?k6 ?k7 (by show dp < _; omega) ?k9 ?kB ?kD ?_ ?c2 ?c3 ?c4
  walk_at "my casesC"
  intro h' tk' cells' F' N' Y'
  obtain ⟨o1, o2, hE, d1, d2⟩ := CellsAre.two Y'
  subst hE; clear Y'
  replace d1 : o1.data = .cell none := d1
  replace d2 : o2.data = .cell none := d2
  replace F' : Fr s.heap s.heap.objs.size h' (fun y => if y = Str.ofString "spans" then some (.ref a) else none) := F'
  obtain ⟨vb, hlb, hvb, hrb⟩ := hS.ex
  rw [hn] at hvb
  have hsz : vb.toArray.size = n := by rw [List.size_toArray, hvb]
  walk_at "to len"
  rename Fr _ _ _ _ => F1
  rename News _ _ _ _ => N1
  refine Calls.call_len_list (hlb.at fun o e => F1.keep _ o e) (by omega) ?_
  rw [hsz]
  walk_at "to mult"
  refine KMa.mul F1 N1 ⟨_, N1.get (.head _), rfl, _, rfl⟩ (by omega) (by omega) (by simp; omega) rfl fun D2 h2 F2 N2 l2 => ?_
  clear F1 N1
  have l2a := l2 (s.heap.objs.size + 1 + 1, o1) (by simp)
  have l2b := l2 (s.heap.objs.size + 1, o2) (by simp)
  clear l2
  dsimp only at l2a l2b ⊢
  rename (_ ∧ _) => lq
  clear lq
  replace N2 := news_skip N2
  obtain ⟨vB, hiB, N2'⟩ := news_zero N2
  clear N2
  walk_at "to len"
  rename Fr _ _ _ _ => F3
  rename News _ _ _ _ => N3
  rename _ = Data.cell (some (Value.ref D2)) => dB
  refine Calls.call_len_list (hlb.at fun o e => F3.keep _ o e) (by omega) ?_
  rw [hsz]
  walk_at "to mult"
  refine KMa.mul F3 N3 ⟨_, N3.get (.head _), rfl, _, rfl⟩ (by omega) (by omega) (by simp; omega) rfl fun D4 h4 F4 N4 l4 => ?_
  clear F3 N3
  have l4a := l4 (D2, _) (.tail _ (.head _))
  have l4b := l4 (s.heap.objs.size + 1 + 1, _) (.tail _ (.tail _ (.head _)))
  have l4c := l4 (s.heap.objs.size + 1, _) (.tail _ (.tail _ (.tail _ (.head _))))
  clear l4
  dsimp only at l4a l4b l4c ⊢
  replace N4 := news_skip N4
  obtain ⟨vE, hiE, N5⟩ := news_zero N4
  clear N4
  walk_at "to iter"
  rename IsRange _ _ _ _ _ _ _ _ => R
  rename Fr _ _ _ _ => F6
  rename News _ _ _ _ => N6
  rename _ = Data.cell (some (Value.ref D4)) => dE
  obtain ⟨oE, oB, dE, dB, N6⟩ := name_cells dE dB N6
  have hrs : Builtin.Range.rangeSize 0 (n : Int) 1 = (n : Int) := by
    unfold Builtin.Range.rangeSize
    simp only [show (1 : Int) > 0 from by decide, if_true, Int.ediv_one]
    split <;> omega
  have hsm : Builtin.Range.small 0 (n : Int) 1 = true := small11 n (by omega)
  refine iter_rng (fun i m news => ∃ bv ev, WInv n a D4 D2 (s.heap.objs.size + 1 + 1) (s.heap.objs.size + 1) oE oB (wkAt sp n i) bv ev [] m news) 7 rfl R (by decide) (by decide) F6 N6 ?h0 ?turn ?done
  case h0 =>
    refine ⟨none, none, vB, vE, _, hiB, hiE, List.length_replicate, List.length_replicate, rfl, fmap_eq ⟨rfl, rfl, rfl, rfl, rfl, trivial⟩ fun q hq => ?_⟩
    obtain ⟨h1, h2, h3, h4, h5, _⟩ := hq
    simp only [if_neg h1, if_neg h2, if_neg h3, if_neg h4, if_neg h5]
  case turn =>
    rintro i t m₁ news₁ h tk own hi ⟨bv, ev, vB, vE, tl, hB, hE, hlB, hlE, rfl, rfl⟩ hne hown F₁ N₁
    clear R F6 N6
    walk_at "to len"
    rename Fr _ _ _ _ => F₂
    refine Calls.call_len_list (hlb.at fun o e => F₂.keep _ o e) (by omega) ?_
    rw [hsz]
    walk_at "to iter"
    rename IsRange _ _ _ _ _ _ _ _ => R3
    rename Fr _ _ _ _ => F3
    rename News _ _ _ _ => N3
    refine iter_rng (fun j m news => ∃ ev, WInv n a D4 D2 (s.heap.objs.size + 1 + 1) (s.heap.objs.size + 1) oE oB (wkE sp i (wkAt sp n i) j) (some (.int (0 + i) t)) ev own m news) n rfl R3 hsm hrs F3 N3 ?h02 ?turn2 ?done2
    case h02 =>
      refine ⟨ev, vB, vE, _, hB, hE, hlB, hlE, rfl, fmap_eq ⟨rfl, rfl, rfl, rfl, rfl, trivial⟩ fun q hq => ?_⟩
      obtain ⟨h1, h2, h3, h4, h5, _⟩ := hq
      simp only [fmap, if_neg h1, if_neg h2, if_neg h3, if_neg h4, if_neg h5]
    case turn2 =>
      rintro j t2 m₂ news₂ h2 tk2 own2 hj ⟨ev2, vB2, vE2, tl2, hB2, hE2, hlB2, hlE2, rfl, rfl⟩ hne2 hown2 F₄ N₄
      clear R3 F3 N3
      obtain ⟨p, hp⟩ : ∃ p, sp[j]? = some p := ⟨sp[j]'(by omega), by simp [show j < sp.length by omega]⟩
      obtain ⟨T1, t11, t12, hT1, hT1'⟩ := hrb j p hp
      have hlb4 := hlb.at fun o e => F₄.keep _ o e
      have hT4 := isTup_ext hT1' F₄.keep
      walk_at "to tail"
      refine item_at (j := j) hlb4 (by omega) (by omega) (by simpa using hT1) ?_
      walk_at "to tail"
      refine pair_snd hT4 ?_
      have hgd : sp.getD j (0, 0) = p := by rw [List.getD_eq_getElem?_getD, hp]; rfl
      rw [wkE_succ]
      generalize wkE sp i (wkAt sp n i) j = st at *
      clear hrb hlb hret
      walk_at "to set"
      · rename p.snd ≠ _ => hc
        rename Fr _ _ _ _ => F9
        rename News _ _ _ _ => N9
        have hc' : ¬ p.2 = (i : Int) := by omega
        refine LoopStepU.intro F9 N9 (fun q hq e => hne2 q hq (List.mem_singleton.mp e)) ⟨some (.int (0 + j) t2), vB2, vE2, tl2, ?_⟩
        rw [stE, hgd, if_neg hc']
        refine ⟨hB2, hE2, hlB2, hlE2, rfl, fmap_eq ⟨rfl, rfl, rfl, rfl, rfl, trivial⟩ fun q hq => ?_⟩
        obtain ⟨h1, h2, h3, h4, h5, _⟩ := hq
        simp only [fmap, if_neg h1, if_neg h2, if_neg h3, if_neg h4, if_neg h5]
      · rename p.snd = _ => hc
        have hc' : p.2 = (i : Int) := by omega
        walk_at "to set"
        rename Fr _ _ _ _ => F9
        rename News _ _ _ _ => N9
        rw [← List.append_assoc] at N9
        have hD1 : ∀ p ∈ own, p.1 ≠ D4 := fun p hp e => hne (D4, listOf vE.toArray 0) (.head _) (e ▸ hown p hp)
        have hD2 : ∀ p ∈ own2, p.1 ≠ D4 := fun p hp e => hne2 (D4, listOf vE2.toArray 0) (List.mem_append_right _ (.head _)) (e ▸ hown2 p hp)
        have hpre : ∀ p ∈ own2 ++ own, p.1 ≠ D4 := fun p hp => (List.mem_append.mp hp).elim (hD2 p) (hD1 p)
        have hpost : ∀ p ∈ [(D2, listOf vB2.toArray 0), (s.heap.objs.size + 1 + 1, oE), (s.heap.objs.size + 1, oB)], p.1 ≠ D4 := by
          intro p hp
          simp only [List.mem_cons, List.not_mem_nil, or_false] at hp
          rcases hp with rfl | rfl | rfl
          · exact Nat.ne_of_lt l4a
          · exact Nat.ne_of_lt l4b
          · exact Nat.ne_of_lt l4c
        refine ksa_set (ns := st.es) F9 N9 (upd_mid hpre hpost) hE2 (by omega) (by omega) (by omega) fun h5 F5 N5 hi5 hl5 hs5 => ?_
        have hk : (0 + (j : Int)).toNat = j := by omega
        rw [hk] at hi5 hl5 N5
        obtain ⟨vE5, hi5, N5⟩ := name_set hi5 N5
        rw [List.append_assoc] at N5
        clear F9 N9 hs5
        dsimp only
        walk_at "to step"
        rename Fr _ _ _ _ => F9
        rename News _ _ _ _ => N9
        refine LoopStepU.intro F9 N9 (fun q hq e => ?_) ⟨some (.int (0 + j) t2), vB2, vE5, tl2, ?_⟩
        · rcases List.mem_append.mp hq with hq | hq
          · exact hne2 q (List.mem_append_left _ hq) (List.mem_singleton.mp e)
          · rcases List.mem_cons.mp hq with rfl | hq
            · exact hne2 (D4, listOf vE2.toArray 0) (List.mem_append_right _ (.head _)) (List.mem_singleton.mp e)
            · exact hne2 q (List.mem_append_right _ (.tail _ hq)) (List.mem_singleton.mp e)
        · rw [stE, hgd, if_pos hc']
          refine ⟨hB2, hi5, hlB2, hl5.trans hlE2, rfl, fmap_eq ⟨rfl, rfl, rfl, rfl, rfl, trivial⟩ fun q hq => ?_⟩
          obtain ⟨h1, h2, h3, h4, h5, _⟩ := hq
          simp only [fmap, if_neg h1, if_neg h2, if_neg h3, if_neg h4, if_neg h5]
    case done2 =>
      rintro h₂ tk₂ m' news' F₂ N₂ ⟨ev', vB', vE', tl', hB', hE', hlB', hlE', rfl, rfl⟩
      clear R3 F3 N3
      dsimp only
      walk_at "to len"
      rename Fr _ _ _ _ => F₂
      refine Calls.call_len_list (hlb.at fun o e => F₂.keep _ o e) (by omega) ?_
      rw [hsz]
      walk_at "to iter"
      rename IsRange _ _ _ _ _ _ _ _ => R3
      rename Fr _ _ _ _ => F3
      rename News _ _ _ _ => N3
      refine iter_rng (fun j m news => ∃ ev, WInv n a D4 D2 (s.heap.objs.size + 1 + 1) (s.heap.objs.size + 1) oE oB (wkB sp i (wkE sp i (wkAt sp n i) n) j) (some (.int (0 + i) t)) ev own m news) n rfl R3 hsm hrs F3 N3 ?h03 ?turn3 ?done3
      case h03 =>
        exact ⟨ev', vB', vE', _, hB', hE', hlB', hlE', rfl, rfl⟩
      case turn3 =>
        rintro j t2 m₂ news₂ h2 tk2 own2 hj ⟨ev2, vB2, vE2, tl2, hB2, hE2, hlB2, hlE2, rfl, rfl⟩ hne2 hown2 F₄ N₄
        clear R3 F3 N3
        obtain ⟨p, hp⟩ : ∃ p, sp[j]? = some p := ⟨sp[j]'(by omega), by simp [show j < sp.length by omega]⟩
        obtain ⟨T1, t11, t12, hT1, hT1'⟩ := hrb j p hp
        have hlb4 := hlb.at fun o e => F₄.keep _ o e
        have hT4 := isTup_ext hT1' F₄.keep
        have hgd : sp.getD j (0, 0) = p := by rw [List.getD_eq_getElem?_getD, hp]; rfl
        rw [wkB_succ]
        generalize wkB sp i (wkE sp i (wkAt sp n i) n) j = st at *
        clear hrb hlb hret
        walk_at "to tail"
        refine item_at (j := j) hlb4 (by omega) (by omega) (by simpa using hT1) ?_
        walk_at "to tail"
        refine pair_fst hT4 ?_
        obtain ⟨bs, es, lv, ov⟩ := st
        dsimp only at hB2 hE2 hlB2 hlE2
        cases ov
        · walk_at "to set"
          · rename p.fst ≠ _ => hc
            rename Fr _ _ _ _ => F9
            rename News _ _ _ _ => N9
            have hc' : ¬ p.1 = (i : Int) := by omega
            refine LoopStepU.intro F9 N9 (fun q hq e => hne2 q hq (List.mem_singleton.mp e)) ⟨some (.int (0 + j) t2), vB2, vE2, tl2, ?_⟩
            rw [stB, hgd, if_neg hc']
            refine ⟨hB2, hE2, hlB2, hlE2, rfl, fmap_eq ⟨rfl, rfl, rfl, rfl, rfl, trivial⟩ fun q hq => ?_⟩
            obtain ⟨h1, h2, h3, h4, h5, _⟩ := hq
            simp only [fmap, if_neg h1, if_neg h2, if_neg h3, if_neg h4, if_neg h5]
          · rename p.fst = _ => hc
            have hc' : p.1 = (i : Int) := by omega
            walk_at "to set"
            rename Fr _ _ _ _ => F9
            rename News _ _ _ _ => N9
            rw [show own2 ++ (own ++ [(D4, listOf vE2.toArray 0), (D2, listOf vB2.toArray 0), (s.heap.objs.size + 1 + 1, oE), (s.heap.objs.size + 1, oB)]) = (own2 ++ (own ++ [(D4, listOf vE2.toArray 0)])) ++ (D2, listOf vB2.toArray 0) :: [(s.heap.objs.size + 1 + 1, oE), (s.heap.objs.size + 1, oB)] from by simp] at N9
            have hD1 : ∀ p ∈ own, p.1 ≠ D2 := fun p hp e => hne (D2, listOf vB.toArray 0) (.tail _ (.head _)) (e ▸ hown p hp)
            have hD2 : ∀ p ∈ own2, p.1 ≠ D2 := fun p hp e => hne2 (D2, listOf vB2.toArray 0) (List.mem_append_right _ (.tail _ (.head _))) (e ▸ hown2 p hp)
            have hpre : ∀ p ∈ own2 ++ (own ++ [(D4, listOf vE2.toArray 0)]), p.1 ≠ D2 := by
              intro p hp
              rcases List.mem_append.mp hp with hp | hp
              · exact hD2 p hp
              · rcases List.mem_append.mp hp with hp | hp
                · exact hD1 p hp
                · rw [List.mem_singleton.mp hp]; exact Nat.ne_of_gt l4a
            have hpost : ∀ p ∈ [(s.heap.objs.size + 1 + 1, oE), (s.heap.objs.size + 1, oB)], p.1 ≠ D2 := by
              intro p hp
              simp only [List.mem_cons, List.not_mem_nil, or_false] at hp
              rcases hp with rfl | rfl
              · exact Nat.ne_of_lt l2a
              · exact Nat.ne_of_lt l2b
            refine ksa_set (ns := bs) F9 N9 (upd_mid hpre hpost) hB2 (by omega) (by omega) (by omega) fun h5 F5 N5 hi5 hl5 hs5 => ?_
            have hk : (0 + (j : Int)).toNat = j := by omega
            rw [hk] at hi5 hl5 N5
            obtain ⟨vB5, hi5, N5⟩ := name_set hi5 N5
            rw [show (own2 ++ (own ++ [(D4, listOf vE2.toArray 0)])) ++ (D2, listOf vB5.toArray 0) :: [(s.heap.objs.size + 1 + 1, oE), (s.heap.objs.size + 1, oB)] = own2 ++ (own ++ [(D4, listOf vE2.toArray 0), (D2, listOf vB5.toArray 0), (s.heap.objs.size + 1 + 1, oE), (s.heap.objs.size + 1, oB)]) from by simp] at N5
            clear F9 N9 hs5
            dsimp only
            walk_at "to step"
            rename Fr _ _ _ _ => F9
            rename News _ _ _ _ => N9
            refine LoopStepU.intro F9 N9 (fun q hq e => ?_) ⟨some (.int (0 + j) t2), vB5, vE2, ?_⟩
            rotate_left
            · rw [stB, hgd, if_pos hc']
              refine ⟨_, hi5, hE2, hl5.trans hlB2, hlE2, rfl, fmap_eq ⟨rfl, rfl, rfl, rfl, rfl, trivial⟩ fun q hq => ?_⟩
              obtain ⟨h1, h2, h3, h4, h5, _⟩ := hq
              simp only [fmap, if_neg h1, if_neg h2, if_neg h3, if_neg h4, if_neg h5]
            · rcases List.mem_append.mp hq with hq | hq
              · exact hne2 q (List.mem_append_left _ hq) (List.mem_singleton.mp e)
              · rcases List.mem_cons.mp hq with rfl | hq
                · exact hne2 _ (List.mem_append_right _ (.head _)) (List.mem_singleton.mp e)
                · rcases List.mem_cons.mp hq with rfl | hq
                  · exact hne2 (D2, listOf vB2.toArray 0) (List.mem_append_right _ (.tail _ (.head _))) (List.mem_singleton.mp e)
                  · exact hne2 q (List.mem_append_right _ (.tail _ (.tail _ hq))) (List.mem_singleton.mp e)
        · walk_at "to set"
          · rename p.fst ≠ _ => hc
            rename Fr _ _ _ _ => F9
            rename News _ _ _ _ => N9
            have hc' : ¬ p.1 = (i : Int) := by omega
            refine LoopStepU.intro F9 N9 (fun q hq e => hne2 q hq (List.mem_singleton.mp e)) ⟨some (.int (0 + j) t2), vB2, vE2, tl2, ?_⟩
            rw [stB, hgd, if_neg hc']
            refine ⟨hB2, hE2, hlB2, hlE2, rfl, fmap_eq ⟨rfl, rfl, rfl, rfl, rfl, trivial⟩ fun q hq => ?_⟩
            obtain ⟨h1, h2, h3, h4, h5, _⟩ := hq
            simp only [fmap, if_neg h1, if_neg h2, if_neg h3, if_neg h4, if_neg h5]
          · rename p.fst = _ => hc
            have hc' : p.1 = (i : Int) := by omega
            walk_at "to set"
            rename Fr _ _ _ _ => F9
            rename News _ _ _ _ => N9
            rw [show own2 ++ (own ++ [(D4, listOf vE2.toArray 0), (D2, listOf vB2.toArray 0), (s.heap.objs.size + 1 + 1, oE), (s.heap.objs.size + 1, oB)]) = (own2 ++ (own ++ [(D4, listOf vE2.toArray 0)])) ++ (D2, listOf vB2.toArray 0) :: [(s.heap.objs.size + 1 + 1, oE), (s.heap.objs.size + 1, oB)] from by simp] at N9
            have hD1 : ∀ p ∈ own, p.1 ≠ D2 := fun p hp e => hne (D2, listOf vB.toArray 0) (.tail _ (.head _)) (e ▸ hown p hp)
            have hD2 : ∀ p ∈ own2, p.1 ≠ D2 := fun p hp e => hne2 (D2, listOf vB2.toArray 0) (List.mem_append_right _ (.tail _ (.head _))) (e ▸ hown2 p hp)
            have hpre : ∀ p ∈ own2 ++ (own ++ [(D4, listOf vE2.toArray 0)]), p.1 ≠ D2 := by
              intro p hp
              rcases List.mem_append.mp hp with hp | hp
              · exact hD2 p hp
              · rcases List.mem_append.mp hp with hp | hp
                · exact hD1 p hp
                · rw [List.mem_singleton.mp hp]; exact Nat.ne_of_gt l4a
            have hpost : ∀ p ∈ [(s.heap.objs.size + 1 + 1, oE), (s.heap.objs.size + 1, oB)], p.1 ≠ D2 := by
              intro p hp
              simp only [List.mem_cons, List.not_mem_nil, or_false] at hp
              rcases hp with rfl | rfl
              · exact Nat.ne_of_lt l2a
              · exact Nat.ne_of_lt l2b
            refine ksa_set (ns := bs) F9 N9 (upd_mid hpre hpost) hB2 (by omega) (by omega) (by omega) fun h5 F5 N5 hi5 hl5 hs5 => ?_
            have hk : (0 + (j : Int)).toNat = j := by omega
            rw [hk] at hi5 hl5 N5
            obtain ⟨vB5, hi5, N5⟩ := name_set hi5 N5
            rw [show (own2 ++ (own ++ [(D4, listOf vE2.toArray 0)])) ++ (D2, listOf vB5.toArray 0) :: [(s.heap.objs.size + 1 + 1, oE), (s.heap.objs.size + 1, oB)] = own2 ++ (own ++ [(D4, listOf vE2.toArray 0), (D2, listOf vB5.toArray 0), (s.heap.objs.size + 1 + 1, oE), (s.heap.objs.size + 1, oB)]) from by simp] at N5
            clear F9 N9 hs5
            dsimp only
            walk_at "to step"
            rename Fr _ _ _ _ => F9
            rename News _ _ _ _ => N9
            refine LoopStepU.intro F9 N9 (fun q hq e => ?_) ⟨some (.int (0 + j) t2), vB5, vE2, ?_⟩
            rotate_left
            · rw [stB, hgd, if_pos hc']
              refine ⟨_, hi5, hE2, hl5.trans hlB2, hlE2, rfl, fmap_eq ⟨rfl, rfl, rfl, rfl, rfl, trivial⟩ fun q hq => ?_⟩
              obtain ⟨h1, h2, h3, h4, h5, _⟩ := hq
              simp only [fmap, if_neg h1, if_neg h2, if_neg h3, if_neg h4, if_neg h5]
            · rcases List.mem_append.mp hq with hq | hq
              · exact hne2 q (List.mem_append_left _ hq) (List.mem_singleton.mp e)
              · rcases List.mem_cons.mp hq with rfl | hq
                · exact hne2 _ (List.mem_append_right _ (.head _)) (List.mem_singleton.mp e)
                · rcases List.mem_cons.mp hq with rfl | hq
                  · exact hne2 (D2, listOf vB2.toArray 0) (List.mem_append_right _ (.tail _ (.head _))) (List.mem_singleton.mp e)
                  · exact hne2 q (List.mem_append_right _ (.tail _ (.tail _ hq))) (List.mem_singleton.mp e)
      case done3 =>
        rintro h₃ tk₃ m' news' F₃ N₃ ⟨ev', vB', vE', tl', hB', hE', hlB', hlE', rfl, rfl⟩
        clear R3 F3 N3
        dsimp only
        walk_at "to step"
        rename Fr _ _ _ _ => F9
        rename News _ _ _ _ => N9
        refine LoopStepU.intro F9 N9 (fun q hq e => ?_) ⟨some (.int (0 + i) t), ev', vB', vE', tl', ?_⟩
        · rcases List.mem_cons.mp hq with rfl | hq
          · exact hne (D4, listOf vE.toArray 0) (.head _) (List.mem_singleton.mp e)
          · rcases List.mem_cons.mp hq with rfl | hq
            · exact hne (D2, listOf vB.toArray 0) (.tail _ (.head _)) (List.mem_singleton.mp e)
            · exact hne q (.tail _ (.tail _ hq)) (List.mem_singleton.mp e)
        · rw [wkAt_succ]; exact ⟨hB', hE', hlB', hlE', rfl, rfl⟩
  case done =>
    rintro h₃ tk₃ m' news' F₃ N₃ ⟨bv, ev, vB', vE', tl', hB', hE', hlB', hlE', rfl, rfl⟩
    clear R F6 N6
    dsimp only
    walk_at "to comp"
    refine comp_local rfl (by with_unfolding_all rfl) rfl (by decide) (by decide) rfl ?_
    walk_at "to len"
    rename Fr _ _ _ _ => F₄
    refine Calls.call_len_list (hlb.at fun o e => F₄.keep _ o e) (by omega) ?_
    rw [hsz]
    walk_at "to ask"
    rename IsRange _ _ _ _ _ _ _ _ => R
    rename Fr _ _ _ _ => F5
    rename News _ _ _ _ => N5
    refine ⟨n, _, fun i y sup => ∃ R t1 t2, y = .ref R ∧ sup = [(R, { cls := .type "tuple", data := .seq [Value.int ((wkAt sp n 7).bs.getD i 0, (wkAt sp n 7).es.getD i 0).1 t1, Value.int ((wkAt sp n 7).bs.getD i 0, (wkAt sp n 7).es.getD i 0).2 t2].toArray })], Src.range R (by omega), by omega, askL ?elt5 ?done5⟩
    case elt5 =>
      rintro g C rest m₂ i _ h tk E' hi ⟨t, rfl⟩ hg F7 hm N7
      have cE : g.IsCell (s.heap.objs.size + 1 + 1) (some (.ref D4)) := ⟨_, hg _ _ (N5.get (.tail _ (.tail _ (.head _)))), dE⟩
      have cB : g.IsCell (s.heap.objs.size + 1) (some (.ref D2)) := ⟨_, hg _ _ (N5.get (.tail _ (.tail _ (.tail _ (.head _))))), dB⟩
      have gE : h.IsList D4 vE'.toArray := ⟨_, F7.keep _ _ (hg _ _ (N5.get (.head _))), rfl, 0, rfl⟩
      have gB : h.IsList D2 vB'.toArray := ⟨_, F7.keep _ _ (hg _ _ (N5.get (.tail _ (.head _)))), rfl, 0, rfl⟩
      obtain ⟨tB, eB⟩ := intsAre_at hB' i (by omega)
      obtain ⟨tE, eE⟩ := intsAre_at hE' i (by omega)
      clear F5 N5 R hret dE dB hrb hlb hS
      walk_at "to name"
      refine ck_cell F7 rfl cB ?_
      walk_at "to name"
      refine ck_own F7 hm ?_
      walk_at "to tail"
      refine item_at (j := i) gB rfl (by omega) (by rw [List.getElem?_toArray]; exact eB) ?_
      walk_at "to name"
      refine ck_cell F7 rfl cE ?_
      walk_at "to name"
      refine ck_own F7 hm ?_
      walk_at "to tail"
      refine item_at (j := i) gE rfl (by omega) (by rw [List.getElem?_toArray]; exact eE) ?_
      repeat ((fail_if_success (show wpAny _ _ (newTuple _) _ _ _)); first | (k_unfold; try dsimp only) | walk1 | (dsimp only; walk1))
      refine newTuple_N F7 N7 fun h₆ F6 N6 => ?_
      refine ⟨h₆, _, _, _, [(h.objs.size, _)], rfl, F6, N6, fun p hp => .tail _ hp, ?_, _, tB, tE, rfl, rfl⟩
      intro p hp
      rw [List.mem_singleton.mp hp]
      refine ⟨N6.get (.head _), ?_⟩
      cases e : h.get? h.objs.size with
      | none => rfl
      | some o => exact absurd (Heap.lt_size e) (Nat.lt_irrefl _)
    case done5 =>
      intro D5 h5 tk5 rs5 hD5 hl5 hlen5 hG5 hsup5 hx5
      have hD5' : s.heap.get? D5 = none := by
        cases e : s.heap.get? D5 with
        | none => rfl
        | some o => rw [F5.keep _ _ e] at hD5; cases hD5
      exact hret D5 h5 _ (pairs_of hlen5 hG5 (fun r hr p hp => (hsup5 r hr p hp).1) hl5.isList) hD5' fun b o e => hx5 b o (F5.keep b o e)
end Mine
end
section
open PySem PySem.W PyProof.Rows PySem.Calls
namespace Mine
set_option maxRecDepth 100000
set_option maxHeartbeats 8000000
def KeepsBut' (C : Addr) (Live : Heap → Prop) (s s' : Shared) : Prop := ∃ h' tk, s' = { s with heap := h', toks := tk } ∧ (∀ b o, b ≠ C → s.heap.get? b = some o → h'.get? b = some o) ∧ Live h'
section
variable {prog : Program} {w : World} {A : Around} {R : Result → Shared → Prop} {s : Shared}
theorem compTurn_d1 (elt target iter : PySem.Expr) (g0 : Comprehension) (scope : Scope) (pos : Pos) (it acc : Value) (env : Env) :
    compTurn (.ListComp elt [g0, ⟨target, iter, [], 0⟩] scope pos) 1 it acc env = (standAt iter.pos >>= fun _ => pyNext it >>= fun r => match r with
      | none => pure (.done .next)
      | some v => letOwnedTupleGo target it v >>= fun _ => assign target env v >>= fun _ =>
        (eval elt env >>= fun x => call (.builtin "list.append") [acc, x] >>= fun _ => pure ()) >>= fun _ =>
          again (.compLoop (.ListComp elt [g0, ⟨target, iter, [], 0⟩] scope pos) 1 it acc env)) := by rfl
theorem loop_d1 {elt target iter : PySem.Expr} {g0 : Comprehension} {scope : Scope} {pos : Pos} {it acc : Value} {env : Env} (I : Nat → Shared → Prop)
    (turn : ∀ n s, I n s → wpAny (model prog w) A (pyNext it) (fun r s₁ => match r with
      | none => R (.ok .next) s₁
      | some v => wpAny (model prog w) A (assign target env v) (fun _ s₂ => wpAny (model prog w) A (eval elt env) (fun x s₃ =>
          wpAny (model prog w) A (call (.builtin "list.append") [acc, x]) (fun _ s₄ => ∃ m, m < n ∧ I m s₄) (notedBy (model prog w) A env fun e s' => R (.error e) s') s₃)
          (notedBy (model prog w) A env fun e s' => R (.error e) s') s₂) (notedBy (model prog w) A env fun e s' => R (.error e) s') s₁) (notedBy (model prog w) A env fun e s' => R (.error e) s') s)
    (n : Nat) (h : I n s) (ht : ∀ v, letOwnedTupleGo target it v = pure () := by intro _; rfl) :
    codeAny (model prog w) A (.compLoop (.ListComp elt [g0, ⟨target, iter, [], 0⟩] scope pos) 1 it acc env) R s := by
  refine codeAny_loop rfl I (fun n s hI => ?_) n h
  show wpAny _ _ ((compTurn (.ListComp elt [g0, ⟨target, iter, [], 0⟩] scope pos) 1 it acc env).onRaise (fun x => do noteFrame x env; theTreesLotGoes x)) _ _ s
  refine wpAny_noted ?_
  rw [compTurn_d1]
  refine wpAny_bind (wpAny_standAt (wpAny_bind (wpAny_mono (turn n s hI) (fun r s₁ h₁ => ?_) fun _ _ h' => h')))
  cases r with
  | none => exact wpAny_pure h₁
  | some v =>
    refine wpAny_bind (wpAny_of_eq (ht v) ?_)
    exact wpAny_bind (wpAny_mono h₁ (fun _ s₂ h₂ => wpAny_bind (wpAny_bind (wpAny_mono h₂ (fun x s₃ h₃ => wpAny_bind (wpAny_mono h₃
      (fun _ s₄ h₄ => wpAny_pure (wpAny_pure ⟨rfl, h₄⟩)) fun _ _ h' => h')) fun _ _ h' => h'))) fun _ _ h' => h')
theorem start_d1 {elt iter target scope pos it acc env} {g0 : Comprehension}
    (h0 : codeAny (model prog w) A (.compLoop (.ListComp elt [g0, ⟨target, iter, [], 0⟩] scope pos) 1 it acc env) R s)
    (h : wpAny (model prog w) A (pyIter it) (fun it' s' => codeAny (model prog w) A (.compLoop (.ListComp elt [g0, ⟨target, iter, [], 0⟩] scope pos) 1 it' acc env) R s')
      (notedBy (model prog w) A env fun x s' => R (.error x) s') s) :
    codeAny (model prog w) A (.compStart (.ListComp elt [g0, ⟨target, iter, [], 0⟩] scope pos) 1 it acc env) R s := by
  refine codeAny_of_tree ?_
  show wpAny _ _ ((compStart (.ListComp elt [g0, ⟨target, iter, [], 0⟩] scope pos) 1 it acc env).onRaise (fun x => do noteFrame x env; standAt theWindowsPlace)) _ _ s
  refine wpAny_notedAt ?_
  unfold compStart
  show wpAny _ _ (ask >>= _) _ _ s
  refine wpAny_bind (wpAny_askSetting (wpAny_ite ?_))
  split
  · first
      | exact wpAny_bind (wpAny_pure (wpAny_pure (And.intro rfl h0)))
      | exact wpAny_pure (And.intro rfl h0)
  · first
      | exact wpAny_bind (wpAny_rule (wpAny_bind (wpAny_standAt (wpAny_bind (wpAny_mono h (fun it' s' h' => wpAny_pure (And.intro rfl h')) fun _ _ x => x)))))
      | (refine wpAny_bind (wpAny_rule ?_); show wpAny _ _ (standAt iter.pos >>= _) _ _ s; exact wpAny_bind (wpAny_standAt (wpAny_bind (wpAny_mono h (fun it' s' h' => wpAny_pure (And.intro rfl h')) fun _ _ x => x))))
theorem compTurn_d0 (elt target iter t1 iter1 : PySem.Expr) (scope : Scope) (pos : Pos) (it acc : Value) (env : Env) :
    compTurn (.ListComp elt [⟨target, iter, [], 0⟩, ⟨t1, iter1, [], 0⟩] scope pos) 0 it acc env = (standAt iter.pos >>= fun _ => pyNext it >>= fun r => match r with
      | none => pure (.done .next)
      | some v => letOwnedTupleGo target it v >>= fun _ => assign target env v >>= fun _ =>
        eval iter1 env >>= fun x => standAt iter1.pos >>= fun _ => foldedSetIterable iter1 env x >>= fun x => holding [x] (pyIter x) >>= fun it1 =>
          runOwn (.compStart (.ListComp elt [⟨target, iter, [], 0⟩, ⟨t1, iter1, [], 0⟩] scope pos) 1 it1 acc env) env >>= fun _ =>
          again (.compLoop (.ListComp elt [⟨target, iter, [], 0⟩, ⟨t1, iter1, [], 0⟩] scope pos) 0 it acc env)) := by rfl
/-- a comprehension's loop whose elements may be new things -/
theorem comp_loopG {elt target : PySem.Expr} {code : Code} {ys0 : List Value} {I D : Addr} {fp wr : List Addr} {n : Nat} {P : Nat → Value → Prop} {St : Nat → Heap → Prop} {cenv : Env}
    (C : Addr) (Mu : List Addr)
    (hcode : ∀ (Iv : Nat → Shared → Prop), (∀ n s, Iv n s → wpAny (model prog w) A (pyNext (.ref I)) (fun r s₁ => match r with
      | none => R (.ok .next) s₁
      | some v => wpAny (model prog w) A (assign target cenv v) (fun _ s₂ => wpAny (model prog w) A (eval elt cenv) (fun x s₃ =>
          wpAny (model prog w) A (call (.builtin "list.append") [.ref D, x]) (fun _ s₄ => ∃ m, m < n ∧ Iv m s₄) (notedBy (model prog w) A cenv fun e s' => R (.error e) s') s₃)
          (notedBy (model prog w) A cenv fun e s' => R (.error e) s') s₂) (notedBy (model prog w) A cenv fun e s' => R (.error e) s') s₁) (notedBy (model prog w) A cenv fun e s' => R (.error e) s') s) →
      ∀ n, Iv n s → codeAny (model prog w) A code R s)
    (Live : Heap → Prop) (Bd : Value → Heap → Prop) (G : Nat → Value → List (Addr × Obj) → Prop)
    (W : Walks prog w A I fp wr n P St) (hn : n ≤ 1000) (hy0 : ys0.length ≤ 1000)
    (hwl : ∀ i h, St i h → ∀ b ∈ wr, ∃ o, h.get? b = some o)
    (hMl : ∀ h, Live h → ∀ b ∈ Mu, ∃ o, h.get? b = some o)
    (hLive : ∀ h h', Live h → (∀ b ∈ Mu, ∀ o, h.get? b = some o → h'.get? b = some o) → Live h')
    (hCM : C ∈ Mu)
    (hbind : ∀ v (s' : Shared) (Q : Unit → Shared → Prop) E', Live s'.heap → (∀ h' tk, Live h' → Bd v h' → (∀ b o, b ∉ Mu → s'.heap.get? b = some o → h'.get? b = some o) → Q () { s' with heap := h', toks := tk }) → wpAny (model prog w) A (assign target cenv v) Q E' s')
    (hDM : D ∉ Mu) (hDf : D ∉ fp) (hMf : ∀ b ∈ Mu, b ∉ fp) (hst : St 0 s.heap) (hacc : s.heap.PlainList D ys0.toArray) (hlive : Live s.heap)
    (helt : ∀ i v (s₃ : Shared) E', i < n → P i v → Bd v s₃.heap → (∃ h tk, s₃ = { s with heap := h, toks := tk }) → (∀ b o, b ∉ wr → b ∉ Mu → b ≠ D → s.heap.get? b = some o → s₃.heap.get? b = some o) →
      wpAny (model prog w) A (eval elt cenv) (fun y s₄ => ∃ sup, G i y sup ∧ (∀ p ∈ sup, s₃.heap.get? p.1 = none ∧ s₄.heap.get? p.1 = some p.2) ∧ KeepsBut' C Live s₃ s₄) E' s₃)
    (hR : ∀ h' tk (rs : List (Value × List (Addr × Obj))), h'.PlainList D (ys0 ++ rs.map (·.1)).toArray → rs.length = n → (∀ i r, rs[i]? = some r → G i r.1 r.2) →
      (∀ r ∈ rs, ∀ p ∈ r.2, h'.get? p.1 = some p.2 ∧ s.heap.get? p.1 = none ∧ p.1 ≠ D ∧ p.1 ∉ Mu) → Live h' → (∀ b o, b ∉ wr → b ∉ Mu → b ≠ D → s.heap.get? b = some o → h'.get? b = some o) → R (.ok .next) { s with heap := h', toks := tk }) :
    codeAny (model prog w) A code R s := by
  have hDw : D ∉ wr := fun h => hDf (W.sub _ h)
  have hMw : ∀ b ∈ Mu, b ∉ wr := fun b hb h => hMf b hb (W.sub _ h)
  refine hcode
    (fun k s' => ∃ h' tk, ∃ rs : List (Value × List (Addr × Obj)), s' = { s with heap := h', toks := tk } ∧ St rs.length h' ∧ h'.PlainList D (ys0 ++ rs.map (·.1)).toArray ∧ Live h' ∧ (∀ i r, rs[i]? = some r → G i r.1 r.2) ∧
      (∀ r ∈ rs, ∀ p ∈ r.2, h'.get? p.1 = some p.2 ∧ s.heap.get? p.1 = none ∧ p.1 ≠ D ∧ p.1 ∉ Mu ∧ p.1 ∉ wr) ∧ rs.length ≤ n ∧ k = n + 1 - rs.length ∧
      (∀ b o, b ∉ wr → b ∉ Mu → b ≠ D → s.heap.get? b = some o → h'.get? b = some o)) ?_ (n + 1)
    ⟨s.heap, s.toks, [], rfl, hst, (by simpa using hacc), hlive, (fun i r h => by simp at h), (fun r h => nomatch h), Nat.zero_le _, rfl, fun _ _ _ _ _ e => e⟩
  rintro k s' ⟨H, tk, rs, rfl, hst', hacc', hlive', hG, hS, hi, rfl, hk⟩
  by_cases hlt : rs.length < n
  · refine W.item rs.length _ _ _ hlt hst' fun v h₁ tk₁ hPv hst₁ hk₁ => ?_
    have hlive₁ : Live h₁ := hLive _ _ hlive' (fun b hb o e => hk₁ b o (hMw b hb) e)
    refine hbind v _ _ _ hlive₁ fun h₂ tk₂ hlive₂ hbd₂ hk₂ => ?_
    have hst₂ : St (rs.length + 1) h₂ := W.frame _ _ _ hst₁ fun b hb o e => hk₂ b o (fun hm => hMf b hm hb) e
    have up₂ : ∀ b o, b ∉ wr → b ∉ Mu → H.get? b = some o → h₂.get? b = some o := fun b o hbw hbM e => hk₂ b o hbM (hk₁ b o hbw e)
    have hacc₂ : h₂.PlainList D (ys0 ++ rs.map (·.1)).toArray := hacc'.at fun o e => up₂ _ o hDw hDM e
    refine wpAny_mono (helt rs.length v _ _ hlt hPv hbd₂ ⟨_, _, rfl⟩ fun b o hbw hbM hbD e => up₂ b o hbw hbM (hk b o hbw hbM hbD e)) (fun y s₄ h₄ => ?_) fun _ _ e => e
    obtain ⟨sup, hGy, hsup, h₄, tk₄, rfl, hk₄, hns₄⟩ := h₄
    have hk₄' := hk₄
    replace hk₄ : ∀ b o, b ∉ Mu → h₂.get? b = some o → h₄.get? b = some o := fun b o hb => hk₄ b o fun e => hb (e ▸ hCM)
    have hlive₄ : Live h₄ := hns₄
    have hlen : (ys0 ++ rs.map (·.1)).toArray.size ≤ sizeLine := by
      rw [List.size_toArray, List.length_append, List.length_map]; unfold sizeLine; omega
    refine wpAny_list_append_plain (hsz := hlen) (hacc₂.at fun o e => hk₄ _ o hDM e) fun h₅ hl₅ hs₅ => ?_
    have new : ∀ p ∈ sup, p.1 ≠ D ∧ p.1 ∉ Mu ∧ p.1 ∉ wr ∧ s.heap.get? p.1 = none := fun p hp => by
      have hnone := (hsup p hp).1
      have h1 : p.1 ≠ D := fun e => by obtain ⟨nn, hd⟩ := hacc₂; rw [e] at hnone; simp only at hnone; rw [hd] at hnone; cases hnone
      have h2 : p.1 ∉ Mu := fun hm => by obtain ⟨o, ho⟩ := hMl _ hlive₂ _ hm; simp only at hnone; rw [ho] at hnone; cases hnone
      have h3 : p.1 ∉ wr := fun hm => by obtain ⟨o, ho⟩ := hwl _ _ hst₂ _ hm; simp only at hnone; rw [ho] at hnone; cases hnone
      refine ⟨h1, h2, h3, ?_⟩
      cases e : s.heap.get? p.1 with
      | none => rfl
      | some o => have := up₂ _ _ h3 h2 (hk _ _ h3 h2 h1 e); simp only at hnone; rw [this] at hnone; cases hnone
    refine ⟨n + 1 - (rs.length + 1), by omega, h₅, tk₄, rs ++ [(y, sup)], rfl, ?_, ?_, ?_, ?_, ?_, ?_, ?_, ?_⟩
    · rw [List.length_append, List.length_singleton]
      exact W.frame _ _ _ hst₂ fun b hb o e => hs₅.extBut b o (fun h => hDf (h ▸ hb)) (hk₄ b o (fun hm => hMf b hm hb) e)
    · have e : (ys0 ++ (rs ++ [(y, sup)]).map (·.1)).toArray = (ys0 ++ rs.map (·.1)).toArray.push y := by simp
      rw [e]; exact hl₅
    · exact hLive _ _ hlive₄ (fun b hb o e => hs₅.extBut b o (fun h => hDM (h ▸ hb)) e)
    · intro i r hr
      rcases Nat.lt_trichotomy i rs.length with h | h | h
      · exact hG i r (by rwa [List.getElem?_append_left h] at hr)
      · subst h; simp at hr; subst hr; exact hGy
      · rw [List.getElem?_eq_none (by rw [List.length_append, List.length_singleton]; omega)] at hr; cases hr
    · intro r hr p hp
      rcases List.mem_append.mp hr with hr | hr
      · obtain ⟨e1, e2, e3, e4, e5⟩ := hS r hr p hp
        exact ⟨hs₅.extBut _ _ e3 (hk₄ _ _ e4 (up₂ _ _ e5 e4 e1)), e2, e3, e4, e5⟩
      · rw [List.mem_singleton.mp hr] at hp
        obtain ⟨e1, e2, e3, e4⟩ := new p hp
        exact ⟨hs₅.extBut _ _ e1 (hsup p hp).2, e4, e1, e2, e3⟩
    · rw [List.length_append, List.length_singleton]; omega
    · rw [List.length_append, List.length_singleton]
    · exact fun b o hbw hbM hbD e => hs₅.extBut b o hbD (hk₄ b o hbM (up₂ b o hbw hbM (hk b o hbw hbM hbD e)))
  · have hin : rs.length = n := by omega
    refine W.done _ _ _ (hin ▸ hst') fun h₁ tk₁ hk₁ => ?_
    refine hR h₁ tk₁ rs (hacc'.at fun o e => hk₁ _ o hDw e) hin hG (fun r hr p hp => ?_) (hLive _ _ hlive' (fun b hb o e => hk₁ b o (hMw b hb) e)) fun b o hbw hbM hbD e => hk₁ b o hbw (hk b o hbw hbM hbD e)
    obtain ⟨e1, e2, e3, e4, e5⟩ := hS r hr p hp
    exact ⟨hk₁ _ _ e5 e1, e2, e3, e4⟩
end
end Mine
end
section
open PySem PySem.W PyProof.Rows PySem.Calls
namespace Mine
set_option maxRecDepth 100000
set_option maxHeartbeats 8000000
theorem fillK11 : ∀ w : World, (hd.heap_39 w.params).lookup 3 = (hd.heap_39 w.params).lookup 3 ∧ PySem.Challenge.rw_pu0027_01 = PySem.Challenge.rw_pu0027_01 := by
  k_fill
  intro w; exact ⟨rfl, rfl⟩
abbrev tupO (p : Int × Int) (t1 t2 : Tok) : Obj := { cls := .type "tuple", data := .seq [Value.int p.1 t1, Value.int p.2 t2].toArray }
/-- the borders drawn so far -/
def bord (k : Nat) : List (Int × Int) := (List.range k).flatMap fun q => (List.range (q + 1)).map fun (i : Nat) => ((i : Int), ((q + 1 : Nat) : Int))
theorem bord_succ (k : Nat) : bord (k + 1) = bord k ++ (List.range (k + 1)).map fun (i : Nat) => ((i : Int), ((k + 1 : Nat) : Int)) := by
  unfold bord
  generalize hX : (List.range (k + 1)).map (fun (i : Nat) => ((i : Int), ((k + 1 : Nat) : Int))) = X
  rw [List.range_succ, List.flatMap_append, ← hX]
  simp only [List.flatMap_cons, List.flatMap_nil, List.append_nil]
structure TupsAt (h : Heap) (off : List Addr) (ys : List Value) (sp : List (Int × Int)) : Prop where
  len : ys.length = sp.length
  ex : ∀ (i : Nat) (p : Int × Int), sp[i]? = some p → ∃ (T : Addr) (t1 t2 : Tok), ys[i]? = some (.ref T) ∧ h.get? T = some (tupO p t1 t2) ∧ T ∉ off
theorem TupsAt.keep {h h' : Heap} {off : List Addr} {ys : List Value} {sp : List (Int × Int)} (x : TupsAt h off ys sp) (hk : ∀ b o, b ∉ off → h.get? b = some o → h'.get? b = some o) : TupsAt h' off ys sp :=
  ⟨x.len, fun i p hp => let ⟨T, t1, t2, e1, e2, e3⟩ := x.ex i p hp; ⟨T, t1, t2, e1, hk _ _ e3 e2, e3⟩⟩
theorem TupsAt.append {h : Heap} {off : List Addr} {ys ys' : List Value} {sp sp' : List (Int × Int)} (x : TupsAt h off ys sp) (x' : TupsAt h off ys' sp') : TupsAt h off (ys ++ ys') (sp ++ sp') := by
  refine ⟨by rw [List.length_append, List.length_append, x.len, x'.len], fun i p hp => ?_⟩
  rcases Nat.lt_or_ge i sp.length with hi | hi
  · rw [List.getElem?_append_left hi] at hp
    obtain ⟨T, t1, t2, e1, e2⟩ := x.ex i p hp
    exact ⟨T, t1, t2, by rw [List.getElem?_append_left (by rw [x.len]; exact hi)]; exact e1, e2⟩
  · rw [List.getElem?_append_right hi] at hp
    obtain ⟨T, t1, t2, e1, e2⟩ := x'.ex _ p hp
    exact ⟨T, t1, t2, by rw [List.getElem?_append_right (by rw [x.len]; exact hi), x.len]; exact e1, e2⟩
local macro_rules | `(tactic| walk_at "to name") => `(tactic| repeat ((fail_if_success (with_reducible show wpAny _ _ (eval (PySem.Expr.Name _ _) _) _ _ _)); first | (k_unfold; try dsimp only) | walk1 | (dsimp only; walk1)))
abbrev scB : Scope := { kind := .function, names := [(Str.ofString ".0", .local), (Str.ofString "j", .local), (Str.ofString "i", .local), (Str.ofString "range", .globalImplicit)], isGenerator := false, isCoroutine := false, more := [] }
abbrev eltB (p1 p2 p3 : Pos) : PySem.Expr := .Tuple [.Name (Str.ofString "i") p1, .Name (Str.ofString "j") p2] 0 p3
abbrev it1B (p4 p5 p6 : Pos) : PySem.Expr := .Call (.Name (Str.ofString "range") p4) [.Name (Str.ofString "j") p5] [] p6
theorem cut_frame {h : Heap} {C : Addr} {m : Str → Option Value} (hn : h.Ns C m) : Fr (cutAt h C) C h m ∧ News (cutAt h C) C h (aboveAll h C) := by
  refine ⟨⟨hn, fun b o e => cut_some e, cut_size h C⟩, fun p hp => ?_⟩
  obtain ⟨h1, h2⟩ := mem_above.mp hp
  exact ⟨h2, Nat.ne_of_gt h1, Heap.get?_none_of_le (Nat.le_trans (cut_size h C) (Nat.le_of_lt h1))⟩
theorem cut_keep {h h' : Heap} {C : Addr} {m : Str → Option Value} {all : List (Addr × Obj)} (F : Fr (cutAt h C) C h' m) (N : News (cutAt h C) C h' all) (hs : ∀ p ∈ aboveAll h C, p ∈ all) : ∀ b o, b ≠ C → h.get? b = some o → h'.get? b = some o := by
  intro b o hne e
  rcases Nat.lt_trichotomy b C with hb | hb | hb
  · exact F.keep b o (cut_of e hb)
  · exact absurd hb hne
  · exact (N (b, o) (hs _ (mem_above.mpr ⟨hb, e⟩))).1
section
variable {w : World} {A : Around} {E : Value → Shared → Prop} {env : Env} {s : Shared} {p1 p2 p3 p4 p5 p6 : Pos} {cl : List (Str × Addr)} {C D : Addr} {mg mb : Str → Option Value}
theorem start_d1' {R : Result → Shared → Prop} {elt iter target scope pos acc env} {g0 : Comprehension} {I : Addr} {x left step : Int} (hit : IsRangeIter s.heap I x left step)
    (h0 : codeAny (model PR w) A (.compLoop (.ListComp elt [g0, ⟨target, iter, [], 0⟩] scope pos) 1 (.ref I) acc env) R s) :
    codeAny (model PR w) A (.compStart (.ListComp elt [g0, ⟨target, iter, [], 0⟩] scope pos) 1 (.ref I) acc env) R s := start_d1 h0 (wpAny_pyIter_rangeiter hit h0)
theorem codeAny_compStart_range {R : Result → Shared → Prop} {elt iter target scope pos acc env} {rest : List Comprehension} {I : Addr} {x left step : Int} (hit : IsRangeIter s.heap I x left step)
    (h0 : codeAny (model PR w) A (.compLoop (.ListComp elt (⟨target, iter, [], 0⟩ :: rest) scope pos) 0 (.ref I) acc env) R s) :
    codeAny (model PR w) A (.compStart (.ListComp elt (⟨target, iter, [], 0⟩ :: rest) scope pos) 0 (.ref I) acc env) R s := codeAny_compStart_list h0 (wpAny_pyIter_rangeiter hit h0)
/-- one inner loop: the borders that end at one place -/
theorem inner_loop {R : Result → Shared → Prop} {I : Addr} {ys0 : List Value} {j : Nat} {t : Tok} {g0 : Comprehension} {pos px : Pos} {iter : PySem.Expr}
    (hh : A.handled = none) (hj : j ≤ 6) (hy0 : ys0.length ≤ 100) (hst : IsRangeIter s.heap I 0 (j : Int) 1) (hacc : s.heap.PlainList D ys0.toArray) (hlive : ∃ m, s.heap.Ns C m ∧ m (Str.ofString "j") = some (.int j t))
    (hDC : D ≠ C) (hDI : D ≠ I) (hCI : C ≠ I)
    (hR : ∀ h' tk (rs : List (Value × List (Addr × Obj))), h'.PlainList D (ys0 ++ rs.map (·.1)).toArray → rs.length = j → (∀ (i : Nat) (r : Value × List (Addr × Obj)), rs[i]? = some r → ∃ T t1 t2, r.1 = Value.ref T ∧ r.2 = [(T, tupO ((i : Int), (j : Int)) t1 t2)]) →
      (∀ r ∈ rs, ∀ p ∈ r.2, h'.get? p.1 = some p.2 ∧ s.heap.get? p.1 = none) → (∃ m, h'.Ns C m) → (∀ b o, b ≠ I → b ≠ C → b ≠ D → s.heap.get? b = some o → h'.get? b = some o) → R (.ok .next) { s with heap := h', toks := tk }) :
    codeAny (model PR w) A (.compLoop (.ListComp (eltB p1 p2 p3) [g0, ⟨.Name (Str.ofString "i") px, iter, [], 0⟩] scB pos) 1 (.ref I) (.ref D) (compEnvC scB cl C env)) R s := by
  have W : Walks PR w A I [I] [I] j (fun i v => ∃ t, v = .int (i : Int) t) (fun i h => IsRangeIter h I (0 + (i : Nat) * 1) ((j : Int) - (i : Nat)) 1) := by
    have e : (fun (i : Nat) (v : Value) => ∃ t, v = Value.int (i : Int) t) = fun (i : Nat) (v : Value) => ∃ t, v = Value.int (0 + (i : Int) * 1) t := by funext i v; rw [Int.mul_one, Int.zero_add]
    rw [e]; exact Walks.range hh _ 0 1 j
  refine comp_loopG (cenv := compEnvC scB cl C env) (target := .Name (Str.ofString "i") px) (elt := eltB p1 p2 p3) C [C] (fun Iv turn n h => loop_d1 Iv turn n h)
    (fun h => ∃ m, h.Ns C m ∧ m (Str.ofString "j") = some (.int j t)) (fun v h => ∃ m, h.Ns C m ∧ m (Str.ofString "j") = some (.int j t) ∧ m (Str.ofString "i") = some v)
    (fun i y sup => ∃ T t1 t2, y = Value.ref T ∧ sup = [(T, tupO ((i : Int), (j : Int)) t1 t2)]) W (by omega) (by omega) ?_ ?_ ?_ (List.mem_singleton.mpr rfl) ?_ ?_ ?_ ?_ ?_ hacc hlive ?_ ?_
  · intro i h st b hb; rw [List.mem_singleton.mp hb]; exact ⟨_, st⟩
  · rintro h ⟨m, ⟨o, _, _, ho, _⟩, _⟩ b hb; rw [List.mem_singleton.mp hb]; exact ⟨o, ho⟩
  · rintro h h' ⟨m, hm, hv⟩ hk; exact ⟨m, hm.at' fun o e => hk C (List.mem_singleton.mpr rfl) o e, hv⟩
  · rintro v s' Q' E' ⟨m, hm, hv⟩ hk
    refine wpAny_assign_Name (wpAny_storeName_local (by rfl) hm (fun h' hn hs => ?_) (by rfl))
    have hv' : (fun x => if x = Str.ofString "i" then some v else m x) (Str.ofString "j") = some (.int j t) := by
      show (if Str.ofString "j" = Str.ofString "i" then some v else m (Str.ofString "j")) = _
      rw [if_neg (by decide), hv]
    exact hk h' _ ⟨_, hn, hv'⟩ ⟨_, hn, hv', if_pos rfl⟩ fun b o hb e => hs.extBut b o (fun e => hb (List.mem_singleton.mpr e)) e
  · exact fun h => hDC (List.mem_singleton.mp h)
  · exact fun h => hDI (List.mem_singleton.mp h)
  · intro b hb hm; rw [List.mem_singleton.mp hb] at hm; exact hCI (List.mem_singleton.mp hm)
  · simpa using hst
  · rintro i v s₃ E' hi ⟨ti, rfl⟩ ⟨m, hm, hmj, hmi⟩ ⟨h, tk, rfl⟩ hk
    obtain ⟨F, N⟩ := cut_frame hm
    walk_at "to name"
    refine ck_own F hmi ?_
    walk_at "to name"
    refine ck_own F hmj ?_
    repeat ((fail_if_success (show wpAny _ _ (newTuple _) _ _ _)); first | (k_unfold; try dsimp only) | walk1 | (dsimp only; walk1))
    refine newTuple_N F N fun h₆ F6 N6 => ?_
    refine ⟨[(h.objs.size, _)], ⟨_, ti, t, rfl, rfl⟩, ?_, h₆, _, rfl, cut_keep F6 N6 (fun p hp => .tail _ hp), m, F6.ns, hmj⟩
    intro p hp
    rw [List.mem_singleton.mp hp]
    refine ⟨?_, N6.get (.head _)⟩
    exact Heap.get?_none_of_le (Nat.le_refl _)
  · intro h' tk rs hl hlen hG hS hlv hk
    exact hR h' tk rs hl hlen hG (fun r hr p hp => ⟨(hS r hr p hp).1, (hS r hr p hp).2.1⟩) (let ⟨m, x, _⟩ := hlv; ⟨m, x⟩) fun b o h1 h2 h3 e => hk b o (fun h => h1 (List.mem_singleton.mp h)) (fun h => h2 (List.mem_singleton.mp h)) h3 e
theorem eval_it1 {g : Heap} {m : Str → Option Value} {rest : List (Addr × Obj)} {j : Nat} {t : Tok} {Q : Value → Shared → Prop} (hg : env.globals = mainGlobals) (hb : env.builtins = builtinsNs)
    (F : Fr g C s.heap m) (N : News g C s.heap rest) (X : (hd.heap_39 w.params).In g) (T : TopRead hd.view_39 LO mg mb g) (hm : m (Str.ofString "j") = some (.int j t)) (hj : j ≤ 6)
    (hQ : ∀ h' tk r t u v, Fr g C h' m → News g C h' rest → IsRange h' r 0 (j : Int) 1 t u v → (∀ b o, s.heap.get? b = some o → h'.get? b = some o) → Q (.ref r) { s with heap := h', toks := tk }) :
    wpAny (model PR w) A (eval (it1B p4 p5 p6) (compEnvC scB cl C env)) Q E s := by
  walk_at "to name"
  refine ck_built F X T (by k_is) (by boot_by_name) (by decide) ?_ hg hb
  walk_at "to name"
  refine ck_own F hm ?_
  k_steps
  exact hQ _ _ _ _ _ _ (by assumption) (by assumption) (by assumption) (by assumption)
theorem outer_loop {R : Result → Shared → Prop} {I : Addr} {b₀ : Heap} {pj px pos : Pos} {iterO : PySem.Expr} {m₀ : Str → Option Value} (hg : env.globals = mainGlobals) (hb : env.builtins = builtinsNs)
    (hh : A.handled = none) (X : (hd.heap_39 w.params).In b₀) (T : TopRead hd.view_39 LO mg mb b₀) (hbase : ∀ b o, b₀.get? b = some o → s.heap.get? b = some o ∧ b ∉ [I, C, D] ∧ @LT.lt Nat _ b C)
    (hst : IsRangeIter s.heap I 1 6 1) (hacc : s.heap.PlainList D #[]) (hns : s.heap.Ns C m₀) (hDC : D ≠ C) (hDI : D ≠ I) (hCI : C ≠ I)
    (hR : ∀ h' tk ys, h'.PlainList D (ys : List Value).toArray → TupsAt h' [I, C, D] ys (bord 6) → (∃ m, h'.Ns C m) → (∀ b o, b ∉ [I, C, D] → s.heap.get? b = some o → h'.get? b = some o) → R (.ok .next) { s with heap := h', toks := tk }) :
    codeAny (model PR w) A (.compLoop (.ListComp (eltB p1 p2 p3) [⟨.Name (Str.ofString "j") pj, iterO, [], 0⟩, ⟨.Name (Str.ofString "i") px, it1B p4 p5 p6, [], 0⟩] scB pos) 0 (.ref I) (.ref D) (compEnvC scB cl C env)) R s := by
  have W : Walks PR w A I [I] [I] 6 (fun i v => ∃ t, v = .int ((i + 1 : Nat) : Int) t) (fun i h => IsRangeIter h I (1 + (i : Nat) * 1) ((6 : Nat) - (i : Nat)) 1) := by
    have e : (fun (i : Nat) (v : Value) => ∃ t, v = Value.int ((i + 1 : Nat) : Int) t) = fun (i : Nat) (v : Value) => ∃ t, v = Value.int (1 + (i : Int) * 1) t := by
      funext i v; rw [show ((i + 1 : Nat) : Int) = 1 + (i : Int) * 1 by omega]
    rw [e]; exact Walks.range hh _ 1 1 6
  refine codeAny_loop rfl (fun n s' => ∃ h tk ys k, s' = { s with heap := h, toks := tk } ∧ k ≤ 6 ∧ n = 7 - k ∧ IsRangeIter h I (1 + (k : Nat) * 1) ((6 : Nat) - (k : Nat)) 1 ∧ h.PlainList D (ys : List Value).toArray ∧ TupsAt h [I, C, D] ys (bord k) ∧
      (∃ m, h.Ns C m) ∧ ∀ b o, b ∉ [I, C, D] → s.heap.get? b = some o → h.get? b = some o) ?_ 7 ⟨s.heap, s.toks, [], 0, rfl, by omega, rfl, by simpa using hst, hacc, ⟨rfl, fun i p hp => by simp [bord] at hp⟩, ⟨_, hns⟩, fun _ _ _ e => e⟩
  rintro n s' ⟨h, tk, ys, k, rfl, hk6, rfl, hst', hacc', htup, ⟨m, hm⟩, hk⟩
  show wpAny _ _ ((compTurn (.ListComp (eltB p1 p2 p3) [⟨.Name (Str.ofString "j") pj, iterO, [], 0⟩, ⟨.Name (Str.ofString "i") px, it1B p4 p5 p6, [], 0⟩] scB pos) 0 (.ref I) (.ref D) (compEnvC scB cl C env)).onRaise (fun x => do noteFrame x (compEnvC scB cl C env); theTreesLotGoes x)) _ _ _
  refine wpAny_noted ?_
  rw [compTurn_d0]
  show wpAny (model PR w) A _ _ _ _
  refine wpAny_bind (wpAny_standAt (wpAny_bind ?_))
  have nI : I ∈ [I, C, D] := by simp
  have nC : C ∈ [I, C, D] := by simp
  have nD : D ∈ [I, C, D] := by simp
  by_cases hlt : k < 6
  · refine W.item k _ _ _ hlt hst' fun v h₁ tk₁ hv hst₁ hk₁ => ?_
    obtain ⟨t, rfl⟩ := hv
    have up₁ : ∀ b o, b ≠ I → h.get? b = some o → h₁.get? b = some o := fun b o hne e => hk₁ b o (fun hm => hne (List.mem_singleton.mp hm)) e
    refine wpAny_bind (wpAny_of_eq rfl (wpAny_bind (wpAny_assign_Name (wpAny_storeName_local (by rfl) (hm.at' fun o e => up₁ C o hCI e) (fun h₂ hn₂ hs₂ => ?_) (by rfl)))))
    have up₂ : ∀ b o, b ≠ I → b ≠ C → h.get? b = some o → h₂.get? b = some o := fun b o h1 h2 e => hs₂.extBut b o h2 (up₁ b o h1 e)
    have hb₂ : ∀ b o, b₀.get? b = some o → (cutAt h₂ C).get? b = some o := fun b o e => by
      obtain ⟨e1, e2, e3⟩ := hbase b o e
      exact cut_of (up₂ b o (fun x => e2 (x ▸ nI)) (fun x => e2 (x ▸ nC)) (hk b o e2 e1)) e3
    obtain ⟨F, N⟩ := cut_frame hn₂
    refine wpAny_bind (eval_it1 (j := k + 1) hg hb F N (Frag.In.keeps X hb₂) (TopRead.keeps T hb₂) (if_pos rfl) (by omega) fun h₃ tk₃ r t3 u3 v3 F3 N3 hr hk₃ => ?_)
    refine wpAny_bind (wpAny_standAt (wpAny_bind (wpAny_of_eq rfl (wpAny_bind (wpAny_holding (wpAny_pyIter_range hr (small11 (k + 1) (by omega)) ?_))))))
    have hrs : Builtin.Range.rangeSize 0 ((k + 1 : Nat) : Int) 1 = ((k + 1 : Nat) : Int) := by
      unfold Builtin.Range.rangeSize
      simp only [show (1 : Int) > 0 from by decide, if_true, Int.ediv_one]
      split <;> omega
    rw [hrs]
    dsimp only
    generalize hoI : ({ cls := .type "range_iterator", data := _ } : Obj) = oI
    have up₄ : ∀ b o, h₂.get? b = some o → (h₃.push oI).get? b = some o := fun b o e => Heap.get?_push_of_some _ (hk₃ b o e)
    have hsti : IsRangeIter (h₃.push oI) h₃.objs.size 0 ((k + 1 : Nat) : Int) 1 := by
      show IsRangeIter _ _ _ _ _; rw [← hoI]; simpa using Heap.get?_push_size _ rfl
    obtain ⟨kD, hD⟩ := hacc'
    have hD₃ := hk₃ _ _ (up₂ D _ hDI hDC hD)
    have hD₄ : (h₃.push oI).PlainList D ys.toArray := ⟨kD, Heap.get?_push_of_some _ hD₃⟩
    obtain ⟨oC, esC, epC, hC₃, hC₃'⟩ := F3.ns
    have hys : ys.length ≤ 100 := by
      rw [htup.len]
      have : ∀ k < 6, (bord k).length ≤ 100 := by decide
      exact this k hlt
    have loop := fun Rq hRq => inner_loop (w := w) (A := A) (env := env) (cl := cl) (C := C) (D := D) (p1 := p1) (p2 := p2) (p3 := p3) (s := { s with heap := h₃.push oI, toks := tk₃ }) (R := Rq) (I := h₃.objs.size) (ys0 := ys) (j := k + 1) (t := t) (g0 := ⟨.Name (Str.ofString "j") pj, iterO, [], 0⟩) (pos := pos) (px := px) (iter := it1B p4 p5 p6)
      hh (by omega) hys hsti hD₄ ⟨_, F3.ns.at' fun o e => Heap.get?_push_of_some _ e, if_pos rfl⟩ hDC (Nat.ne_of_lt (Heap.lt_size hD₃)) (Nat.ne_of_lt (Heap.lt_size hC₃)) hRq
    refine wpAny_bind (wpAny_runOwn (start_d1' hsti (loop _ fun h' tk' rs hl hlen hG hS hns' hk' => ?_)))
    · refine wpAny_pure ⟨rfl, 7 - (k + 1), by omega, h', tk', ys ++ rs.map (·.1), k + 1, rfl, by omega, rfl, ?_, hl, ?_, hns', ?_⟩
      · exact hk' I _ (Nat.ne_of_lt (Heap.lt_size (hk₃ _ _ (hs₂.extBut I _ (Ne.symm hCI) hst₁)))) (Ne.symm hCI) (Ne.symm hDI) (up₄ _ _ (hs₂.extBut I _ (Ne.symm hCI) hst₁))
      · rw [bord_succ]
        refine (htup.keep fun b o hb e => ?_).append ⟨by simp [hlen], fun i p hp => ?_⟩
        · have e₂ := up₂ b o (fun x => hb (x ▸ nI)) (fun x => hb (x ▸ nC)) e
          exact hk' b o (Nat.ne_of_lt (Heap.lt_size (hk₃ _ _ e₂))) (fun x => hb (x ▸ nC)) (fun x => hb (x ▸ nD)) (up₄ _ _ e₂)
        · have hi : i < k + 1 := by
            rcases Nat.lt_or_ge i (k + 1) with h | h
            · exact h
            · rw [List.getElem?_eq_none (by simp; omega)] at hp; cases hp
          rw [List.getElem?_map, List.getElem?_range hi] at hp
          injection hp with hp
          have hi' : i < rs.length := by omega
          have hr' : rs[i]? = some rs[i] := by simp
          obtain ⟨T1, t1, t2, e1, e2⟩ := hG i _ hr'
          obtain ⟨e3, e4⟩ := hS _ (List.getElem_mem hi') (T1, tupO ((i : Int), ((k + 1 : Nat) : Int)) t1 t2) (by rw [e2]; exact List.mem_singleton.mpr rfl)
          refine ⟨T1, t1, t2, by rw [List.getElem?_map, hr', Option.map_some, e1], by rw [← hp]; exact e3, fun hm => ?_⟩
          simp only [List.mem_cons, List.not_mem_nil, or_false] at hm
          rcases hm with rfl | rfl | rfl
          · have := up₄ _ _ (hs₂.extBut _ _ (Ne.symm hCI) hst₁); simp only at e4; rw [this] at e4; cases e4
          · have := Heap.get?_push_of_some oI hC₃; simp only at e4; rw [this] at e4; cases e4
          · have := Heap.get?_push_of_some oI hD₃; simp only at e4; rw [this] at e4; cases e4
      · intro b o hb e
        have e₂ := up₂ b o (fun x => hb (x ▸ nI)) (fun x => hb (x ▸ nC)) (hk b o hb e)
        exact hk' b o (Nat.ne_of_lt (Heap.lt_size (hk₃ _ _ e₂))) (fun x => hb (x ▸ nC)) (fun x => hb (x ▸ nD)) (up₄ _ _ e₂)
  · have hk6' : k = 6 := by omega
    subst hk6'
    refine W.done _ _ _ hst' fun h₁ tk₁ hk₁ => ?_
    have up₁ : ∀ b o, b ≠ I → h.get? b = some o → h₁.get? b = some o := fun b o hne e => hk₁ b o (fun hm => hne (List.mem_singleton.mp hm)) e
    refine wpAny_pure ?_
    exact hR h₁ tk₁ ys (hacc'.at fun o e => up₁ D o hDI e) (htup.keep fun b o hb e => up₁ b o (fun x => hb (x ▸ nI)) e) ⟨m, hm.at' fun o e => up₁ C o hCI e⟩ fun b o hb e => up₁ b o (fun x => hb (x ▸ nI)) (hk b o hb e)
theorem comp_borders {pj px pos : Pos} {iterO : PySem.Expr} {Q : Value → Shared → Prop} (hg : env.globals = mainGlobals) (hb : env.builtins = builtinsNs) (hh : A.handled = none) (hclos : closureFor scB env = pure [])
    (h : wpAny (model PR w) A (eval iterO env) (fun xv s₁ => ∃ r t u v, xv = .ref r ∧ IsRange s₁.heap r 1 7 1 t u v ∧ (hd.heap_39 w.params).In s₁.heap ∧ TopRead hd.view_39 LO mg mb s₁.heap ∧
      ∀ D h' tk, PairsAt h' D (bord 6) → s₁.heap.get? D = none → Ext s₁.heap h' → Q (.ref D) { s₁ with heap := h', toks := tk }) E s)
    (hs : ∀ x, foldedSetIterable iterO env x = pure x := by intro _; rfl) :
    wpAny (model PR w) A (eval (.ListComp (eltB p1 p2 p3) [⟨.Name (Str.ofString "j") pj, iterO, [], 0⟩, ⟨.Name (Str.ofString "i") px, it1B p4 p5 p6, [], 0⟩] scB pos) env) Q E s := by
  rw [eval_ListComp]
  refine wpAny_comprehension_free (use := none) rfl hs hclos rfl (by decide) (wpAny_mono h (fun xv s₁ h₁ => ?_) fun _ _ e => e)
  obtain ⟨r, t, u, v, rfl, hr, X, T, hQ⟩ := h₁
  refine wpAny_pyIter_range hr (by decide) ?_
  rw [show Builtin.Range.rangeSize 1 7 1 = 6 from by decide]
  generalize hoI : ({ cls := .type "range_iterator", data := .fields #[rawInt 1, rawInt 6, rawInt 1] } : Obj) = oI
  refine wpAny_newObj_type (newEnv_comp ?_)
  dsimp only
  rw [noCells_push (names := scB.names) (by decide), noCells_from (names := scB.names) (by decide)]
  generalize hH2 : (s₁.heap.push oI).push { cls := .type "list", dict := none, data := .seq ([] : List Value).toArray } = H2
  have hD : (s₁.heap.push oI).objs.size = s₁.heap.objs.size + 1 := Heap.size_push ..
  have hC : H2.objs.size = s₁.heap.objs.size + 1 + 1 := by rw [← hH2, Heap.size_push, hD]
  have hI₁ : (H2.push { cls := .type "dict", data := .dict #[] }).get? s₁.heap.objs.size = some oI := Heap.get?_push_of_some _ (hH2 ▸ Heap.get?_push_of_some _ (Heap.get?_push_size _ (by rw [← hoI]; rfl)))
  have hD₁ : (H2.push { cls := .type "dict", data := .dict #[] }).PlainList (s₁.heap.push oI).objs.size #[] := ⟨0, Heap.get?_push_of_some _ (hH2 ▸ Heap.get?_push_size _ rfl)⟩
  have hst : IsRangeIter (H2.push { cls := .type "dict", data := .dict #[] }) s₁.heap.objs.size 1 6 1 := by rw [← hoI] at hI₁; exact hI₁
  have old : ∀ b o, s₁.heap.get? b = some o → (H2.push { cls := .type "dict", data := .dict #[] }).get? b = some o ∧ b ∉ [s₁.heap.objs.size, H2.objs.size, (s₁.heap.push oI).objs.size] ∧ @LT.lt Nat _ b H2.objs.size := fun b o e => by
    have hlt := Heap.lt_size e
    refine ⟨Heap.get?_push_of_some _ (hH2 ▸ Heap.get?_push_of_some _ (Heap.get?_push_of_some _ e)), fun hm => ?_, by rw [hC]; exact Nat.lt_succ_of_lt (Nat.lt_succ_of_lt hlt)⟩
    simp only [List.mem_cons, List.not_mem_nil, or_false] at hm
    rcases hm with rfl | rfl | rfl
    · exact Nat.lt_irrefl _ hlt
    · rw [hC] at hlt; exact Nat.lt_irrefl _ (Nat.lt_of_succ_lt (Nat.lt_of_succ_lt hlt))
    · rw [hD] at hlt; exact Nat.lt_irrefl _ (Nat.lt_of_succ_lt hlt)
  have loop := fun Rq hRq => outer_loop (w := w) (A := A) (env := env) (cl := []) (C := H2.objs.size) (D := (s₁.heap.push oI).objs.size) (mg := mg) (mb := mb) (p1 := p1) (p2 := p2) (p3 := p3) (p4 := p4) (p5 := p5) (p6 := p6) (R := Rq) (I := s₁.heap.objs.size) (b₀ := s₁.heap) (pj := pj) (px := px) (pos := pos) (iterO := iterO)
    (s := { s₁ with heap := H2.push { cls := .type "dict", data := .dict #[] } }) hg hb hh X T old hst hD₁ (Heap.Ns.new H2 _) (by rw [hC, hD]; exact Nat.ne_of_lt (Nat.lt_succ_self _)) (by rw [hD]; exact Nat.succ_ne_self _) (by rw [hC]; exact Nat.ne_of_gt (Nat.lt_succ_of_lt (Nat.lt_succ_self _))) hRq
  refine codeAny_compStart_range hst (loop _ fun h' tk ys hl ht hns hk => ?_)
  obtain ⟨m, hm⟩ := hns
  refine ⟨m, hm, fun h'' hs'' => ?_⟩
  have hDC : (s₁.heap.push oI).objs.size ≠ H2.objs.size := by rw [hC, hD]; exact Nat.ne_of_lt (Nat.lt_succ_self _)
  refine hQ _ h'' tk ⟨ys, (hl.at fun o e => hs''.extBut _ _ hDC e).isList, ht.len, fun i p hp => ?_⟩ (Heap.get?_none_of_le (by rw [hD]; exact Nat.le_succ _)) fun b o e => ?_
  · obtain ⟨T1, t1, t2, e1, e2, e3⟩ := ht.ex i p hp
    exact ⟨T1, t1, t2, e1, _, hs''.extBut _ _ (fun x => e3 (by rw [x]; exact .tail _ (.head _))) e2, rfl, _, rfl⟩
  · obtain ⟨e1, e2, e3⟩ := old b o e
    exact hs''.extBut _ _ (fun x => e2 (by rw [x]; exact .tail _ (.head _))) (hk b o e2 e1)
end
end Mine
end
section
open PySem PySem.W PyProof.Rows PySem.Calls
namespace Mine
set_option maxRecDepth 100000
open Classical in
/-- all that stands beside the ground and the frame -/
noncomputable def others (h₀ h : Heap) (L : Addr) : List (Addr × Obj) := (List.range h.objs.size).filterMap fun (b : Nat) => if b ≠ L ∧ h₀.get? b = none then (h.get? b).map fun o => (b, o) else none
theorem mem_others {h₀ h : Heap} {L : Addr} {p : Addr × Obj} : p ∈ others h₀ h L ↔ (p.1 ≠ L ∧ h₀.get? p.1 = none) ∧ h.get? p.1 = some p.2 := by
  unfold others
  rw [List.mem_filterMap]
  constructor
  · rintro ⟨b, hb, e⟩
    split at e
    · rename_i hC
      cases e' : h.get? b with
      | none => rw [e'] at e; cases e
      | some o => rw [e'] at e; injection e with e; subst e; exact ⟨hC, e'⟩
    · cases e
  · rintro ⟨h1, h2⟩
    refine ⟨p.1, List.mem_range.mpr (Heap.lt_size h2), ?_⟩
    rw [if_pos h1, h2]; rfl
theorem news_others (h₀ h : Heap) (L : Addr) : News h₀ L h (others h₀ h L) := fun p hp => by
  obtain ⟨⟨h1, h2⟩, h3⟩ := mem_others.mp hp
  exact ⟨h3, h1, h2⟩
theorem news_with {h₀ h : Heap} {L : Addr} {q : Addr × Obj} {r : List (Addr × Obj)} (N : News h₀ L h (q :: r)) : News h₀ L h (q :: others h₀ h L) := fun p hp => by
  rcases List.mem_cons.mp hp with rfl | hp
  · exact N _ (.head _)
  · exact news_others h₀ h L p hp
def KeepL (L : Addr) (h h' : Heap) : Prop := ∀ b o, b ≠ L → h.get? b = some o → h'.get? b = some o
theorem keepL {h₀ h h' : Heap} {L : Addr} {m m' : Str → Option Value} {all : List (Addr × Obj)} (F : Fr h₀ L h m) (F' : Fr h₀ L h' m') (N' : News h₀ L h' all) (hs : ∀ p ∈ others h₀ h L, p ∈ all) : KeepL L h h' := by
  intro b o hb e
  cases e0 : h₀.get? b with
  | some o' =>
    have := F.keep _ _ e0
    rw [e] at this; injection this with this; subst this
    exact F'.keep _ _ e0
  | none => exact (N' (b, o) (hs _ (mem_others.mpr ⟨⟨hb, e0⟩, e⟩))).1
theorem KeepL.of_ext {L : Addr} {h h' : Heap} (x : Ext h h') : KeepL L h h' := fun b o _ e => x b o e
theorem KeepL.of_same {L : Addr} {h h' : Heap} (x : Heap.SameBut L h h') : KeepL L h h' := fun b o hb e => x.extBut b o hb e
theorem ne_frame {h : Heap} {L b : Addr} {m : Str → Option Value} {o : Obj} {its : Array Value} {n : Nat} (hn : h.Ns L m) (e : h.get? b = some o) (hd : o.data = .seq its n) : b ≠ L := by
  rintro rfl
  obtain ⟨oL, es, ep, hL, hLd, _⟩ := hn
  rw [e] at hL; injection hL with hL; subst hL; rw [hd] at hLd; cases hLd
theorem isList_keepL {h h' : Heap} {L a : Addr} {m : Str → Option Value} {vs : Array Value} (x : h.IsList a vs) (hn : h.Ns L m) (hk : KeepL L h h') : h'.IsList a vs := by
  obtain ⟨o, e, hc, n, hd⟩ := x
  exact ⟨o, hk _ _ (ne_frame hn e hd) e, hc, n, hd⟩
theorem plain_keepL {h h' : Heap} {L a : Addr} {m : Str → Option Value} {vs : Array Value} (x : h.PlainList a vs) (hn : h.Ns L m) (hk : KeepL L h h') : h'.PlainList a vs := by
  obtain ⟨n, e⟩ := x
  exact ⟨n, hk _ _ (ne_frame hn e rfl) e⟩
theorem isTup_keepL {h h' : Heap} {L a : Addr} {m : Str → Option Value} {vs : Array Value} (x : IsTup h a vs) (hn : h.Ns L m) (hk : KeepL L h h') : IsTup h' a vs := by
  obtain ⟨o, e, hc, n, hd⟩ := x
  exact ⟨o, hk _ _ (ne_frame hn e hd) e, hc, n, hd⟩
theorem PairsAt.keepL {h h' : Heap} {L a : Addr} {m : Str → Option Value} {sp : List (Int × Int)} (x : PairsAt h a sp) (hn : h.Ns L m) (hk : KeepL L h h') : PairsAt h' a sp := by
  obtain ⟨vs, h1, h2, h3⟩ := x.ex
  refine ⟨vs, isList_keepL h1 hn hk, h2, fun i p hp => ?_⟩
  obtain ⟨T, t1, t2, e, ht⟩ := h3 i p hp
  exact ⟨T, t1, t2, e, isTup_keepL ht hn hk⟩
theorem SquareAt.keepL {h h' : Heap} {L a : Addr} {m : Str → Option Value} {n : Nat} {f : Nat → Nat → Bool} (x : SquareAt h a n f) (hn : h.Ns L m) (hk : KeepL L h h') : SquareAt h' a n f := by
  obtain ⟨vs, h1, h2, h3⟩ := x.ex
  refine ⟨vs, isList_keepL h1 hn hk, h2, fun i hi => ?_⟩
  obtain ⟨R, e, hr⟩ := h3 i hi
  exact ⟨R, e, plain_keepL hr hn hk⟩
theorem PairsAt.keepC {h h' : Heap} {c a : Addr} {v : Option Value} {sp : List (Int × Int)} (x : PairsAt h a sp) (hc : h.IsCell c v) (hk : KeepL c h h') : PairsAt h' a sp := by
  have ne : ∀ (b : Addr) (o : Obj) (its : Array Value) (n : Nat), h.get? b = some o → o.data = .seq its n → b ≠ c := by
    rintro b o its n e hd rfl
    obtain ⟨oc, ho, hd'⟩ := hc
    rw [e] at ho; injection ho with ho; subst ho; rw [hd] at hd'; cases hd'
  obtain ⟨vs, ⟨o, e, hcl, n, hd⟩, h2, h3⟩ := x.ex
  refine ⟨vs, ⟨o, hk _ _ (ne _ _ _ _ e hd) e, hcl, n, hd⟩, h2, fun i p hp => ?_⟩
  obtain ⟨T, t1, t2, e, ⟨o, ho, hcl, n, hd⟩⟩ := h3 i p hp
  exact ⟨T, t1, t2, e, ⟨o, hk _ _ (ne _ _ _ _ ho hd) ho, hcl, n, hd⟩⟩
section
variable {M : Model} {A : Around} {E : Value → Shared → Prop} {s : Shared} {h₀ : Heap} {L a : Addr} {m : Str → Option Value} {cn : Str} {cs : Scope} {ccd : Value} {cl : List (Str × Addr)}
  {x : Str} {v : Value} {Q : Unit → Shared → Prop} {r : List (Addr × Obj)} {c : Addr} {o : Obj} {v₀ : Option Value}
theorem storeC (F : Fr h₀ L s.heap m) (N : News h₀ L s.heap ((c, o) :: r)) (hc : cl.lookup x = some c) (hd : o.data = .cell v₀)
    (h : ∀ h' o', Fr h₀ L h' m → News h₀ L h' [(c, o')] → o'.data = .cell (some v) → KeepL c s.heap h' → s.heap.IsCell c v₀ → Q () { s with heap := h' })
    (hk : cs.kind = .function := by rfl) (hx : (envX cn cs L a ccd cl).kindOf x = some .cell := by rfl) : wpAny M A (storeName (envX cn cs L a ccd cl) x v) Q E s := by
  have hmem := N (c, o) (.head _)
  refine wpAny_storeName_cell hk hx hc ⟨o, hmem.1, hd⟩ fun h' hv hs => ?_
  obtain ⟨o', ho', hd'⟩ := hv
  refine h h' o' ⟨F.ns.sameBut hs (Ne.symm hmem.2.1), fun b ob e => (hs.2 b (fun q => ?_)).trans (F.keep b ob e), F.above⟩ (fun p hp => ?_) hd' (KeepL.of_same hs) ⟨o, hmem.1, hd⟩
  · rw [q, hmem.2.2] at e; cases e
  · rw [List.mem_singleton.mp hp]; exact ⟨ho', hmem.2⟩
end
section
variable {prog : Program} {w : World} {A : Around} {E : Value → Shared → Prop} {env : Env} {s : Shared}
/-- a name is given a comprehension over a list, and the frame of the comprehension goes behind it -/
theorem assign_useL {elt iter : PySem.Expr} {x y : Str} {px py : Pos} {scope : Scope} {cl : List (Str × Addr)} {pos spos : Pos} {Q : Flow → Shared → Prop} (hh : A.handled = none)
    (hsw : swapsWith (.ListComp elt [⟨.Name x px, iter, [], 0⟩] scope pos) (some (.Name y py)) spos.line env = pure true)
    (hclos : closureFor scope env = pure cl) (hkind : scope.kind = .function) (hnames : ∀ y ∈ scope.names, y.2 = .local → scope.names.lookup y.1 = some .local)
    (hcell : ∀ y ∈ scope.names, y.2 ≠ .cell) (hx : scope.names.lookup x = some .local)
    (hy : env.kindOf y = some .local) (hp : (env.scope.kind == .class || (env.scope.kind == .module && env.locals != env.globals)) = false)
    (h : wpAny (model prog w) A (eval iter env) (fun xv s₁ => ∃ (n : Nat) (P : Nat → Value → Prop) (G : Nat → Value → Prop) (m : Str → Option Value), Src s₁.heap xv n P ∧ n ≤ 1000 ∧ s₁.heap.Ns env.locals m ∧
      (∀ g C rest m₂ i v h tk E', i < n → P i v → Ext s₁.heap g → Fr g C h m₂ → m₂ x = some v → News g C h rest →
        wpAny (model prog w) A (eval elt (compEnvC scope cl C env)) (ElEnd g C rest h s₁ (fun y sup => sup = [] ∧ G i y)) E' { s₁ with heap := h, toks := tk }) ∧
      (∀ D h' tk (rs : List (Value × List (Addr × Obj))), s₁.heap.get? D = none → h'.PlainList D (rs.map (·.1)).toArray → rs.length = n → (∀ (i : Nat) (r : Value × List (Addr × Obj)), rs[i]? = some r → G i r.1) → h'.Ns env.locals (fun z => if z = y then some (.ref D) else m z) → KeepL env.locals s₁.heap h' → Q .next { s₁ with heap := h', toks := tk })) E s)
    (hs : ∀ x, foldedSetIterable iter env x = pure x := by intro _; rfl) :
    wpAny (model prog w) A (exec (.Assign [.Name y py] (.ListComp elt [⟨.Name x px, iter, [], 0⟩] scope pos) spos) env) Q E s := by
  rw [exec_Assign_Name_used _ _ _ _ hsw]
  refine wpAny_bind (wpAny_standAt (wpAny_bind ?_))
  show wpAny _ A (do let _ ← comprehension (.ListComp elt [⟨.Name x px, iter, [], 0⟩] scope pos) scope env _ (newList []) false (eval iter env) (some (assign (.Name y py) env))) _ _ s
  refine wpAny_bind (wpAny_mono (comp_useL (use := some (assign (.Name y py) env)) (Q := fun _ s' => Q .next s') hh hs hclos hkind hnames hcell hx
    (wpAny_mono h (fun xv s₁ h₁ => ?_) fun _ _ e => e)) (fun _ s' hq => wpAny_pure (wpAny_pure hq)) fun _ _ e => e)
  obtain ⟨n, P, G, m, hsrc, hn, hns, helt, hdone⟩ := h₁
  refine ⟨n, P, fun i y sup => sup = [] ∧ G i y, hsrc, hn, askL helt ?_⟩
  intro D h' tk rs hD hl hlen hG hsup hx' C hC hCns
  obtain ⟨mC, hmC⟩ := hCns
  have hLC : env.locals ≠ C := by rintro rfl; obtain ⟨o, _, _, ho, _⟩ := hns; rw [hC] at ho; cases ho
  have hLD : env.locals ≠ D := by rintro rfl; obtain ⟨o, _, _, ho, _⟩ := hns; rw [hD] at ho; cases ho
  refine wpAny_assign_Name (wpAny_storeName_local hy (hns.at' fun o e => hx' _ o e) (fun h₂ hn₂ hs₂ => ?_) hp)
  refine ⟨mC, hmC.sameBut hs₂ (Ne.symm hLC), fun h₃ hs₃ => ?_⟩
  have hDC : D ≠ C := by
    rintro rfl
    obtain ⟨k, e⟩ := hl
    obtain ⟨o, es, ep, ho, hod, _⟩ := hmC
    rw [e] at ho; injection ho with ho; subst ho; cases hod
  exact hdone D h₃ _ rs hD ((hl.at fun o e => hs₂.extBut _ _ (Ne.symm hLD) e).at fun o e => hs₃.extBut _ _ hDC e) hlen (fun i r hr => (hG i r hr).2) (hn₂.sameBut hs₃ hLC) fun b o hb e =>
    hs₃.extBut b o (by rintro rfl; rw [hC] at e; cases e) (hs₂.extBut b o hb (hx' b o e))
end
end Mine
end
section
open PySem PySem.W PyProof.Rows PySem.Calls
namespace Mine
set_option maxRecDepth 100000
theorem count_lt_le (c : Int) : ∀ rs : List Int, rs.countP (fun y => decide (y ≤ c)) = rs.countP (fun y => decide (y < c)) + rs.count c
  | [] => rfl
  | a :: r => by
    have ih := count_lt_le c r
    simp only [List.countP_cons, List.count_cons, ih, decide_eq_true_eq, beq_iff_eq]
    by_cases h1 : a < c
    · have h2 : a ≤ c := by omega
      have h3 : ¬ a = c := by omega
      simp only [h1, h2, h3, if_true, if_false]; omega
    · by_cases h3 : a = c
      · have h2 : a ≤ c := by omega
        simp only [h1, h2, h3, if_true, if_false]
        have : ¬ c < c := by omega
        have h4 : c ≤ c := by omega
        simp only [this, h4, if_true, if_false]; omega
      · have h2 : ¬ a ≤ c := by omega
        simp only [h1, h2, h3, if_false]; omega
theorem stepU_eq (rs : List Int) (c : Int) : stepU rs c = if c ∈ rs then rs else rs.take (rs.countP fun y => decide (y < c)) ++ c :: rs.drop (rs.countP fun y => decide (y < c)) := by
  unfold stepU
  rw [count_lt_le]
  by_cases h : c ∈ rs
  · have := List.count_pos_iff.mpr h
    rw [if_neg (by omega), if_pos h]
  · have := List.count_eq_zero.mpr h
    rw [if_pos (by omega), if_neg h]
theorem stepU_perm {rs : List Int} {c : Int} (h : c ∉ rs) : (stepU rs c).Perm (c :: rs) := by
  rw [stepU_eq, if_neg h]
  have := List.perm_middle (a := c) (l₁ := rs.take (rs.countP fun y => decide (y < c))) (l₂ := rs.drop (rs.countP fun y => decide (y < c)))
  rwa [List.take_append_drop] at this
theorem unlike_set (cs : List Int) : (unlike cs).Nodup ∧ ∀ x, x ∈ unlike cs ↔ x ∈ cs := by
  suffices h : ∀ (cs rs : List Int), rs.Nodup → (cs.foldl stepU rs).Nodup ∧ ∀ x, x ∈ cs.foldl stepU rs ↔ x ∈ rs ∨ x ∈ cs by
    have := h cs [] List.nodup_nil
    simpa [unlike] using this
  intro cs
  induction cs with
  | nil => intro rs h; exact ⟨h, fun x => by simp⟩
  | cons c cs ih =>
    intro rs h
    rw [List.foldl_cons]
    have h1 : (stepU rs c).Nodup ∧ ∀ x, x ∈ stepU rs c ↔ x ∈ rs ∨ x = c := by
      by_cases hc : c ∈ rs
      · rw [stepU_eq, if_pos hc]
        exact ⟨h, fun x => ⟨Or.inl, fun hx => hx.elim id fun e => e ▸ hc⟩⟩
      · have hp := stepU_perm hc
        refine ⟨hp.nodup_iff.mpr (List.nodup_cons.mpr ⟨hc, h⟩), fun x => ?_⟩
        rw [hp.mem_iff, List.mem_cons]
        exact Or.comm
    obtain ⟨h2, h3⟩ := ih _ h1.1
    refine ⟨h2, fun x => ?_⟩
    rw [h3, h1.2, List.mem_cons, or_assoc]
theorem countP_same {α : Type} {l : List α} {p q : α → Bool} (h : ∀ x ∈ l, (p x = true ↔ q x = true)) : l.countP p = l.countP q := List.countP_congr h
theorem countP_lt {α : Type} {p q : α → Bool} : ∀ {l : List α}, (∀ x ∈ l, p x = true → q x = true) → (∃ x ∈ l, q x = true ∧ p x = false) → l.countP p < l.countP q
  | [], _, ⟨_, hx, _⟩ => nomatch hx
  | a :: l, h, ⟨x, hx, h1, h2⟩ => by
    have hm := List.countP_mono_left (l := l) fun y hy => h y (.tail _ hy)
    rcases List.mem_cons.mp hx with rfl | hx
    · rw [List.countP_cons_of_pos h1, List.countP_cons_of_neg (by simp [h2])]; omega
    · have ih := countP_lt (l := l) (fun y hy => h y (.tail _ hy)) ⟨x, hx, h1, h2⟩
      rw [List.countP_cons, List.countP_cons]
      by_cases hp : p a = true
      · rw [if_pos hp, if_pos (h a (.head _) hp)]; omega
      · rw [if_neg hp]; omega
theorem countP_new {l : List Int} {p q : Int → Bool} {a : Int} (hn : l.Nodup) (ha : a ∈ l) (hp : p a = false) (h : ∀ x ∈ l, (q x = true ↔ p x = true ∨ x = a)) : l.countP q = l.countP p + 1 := by
  have hpm := List.perm_cons_erase ha
  have hn' := (hpm.nodup_iff.mp hn)
  rw [hpm.countP_eq, hpm.countP_eq p, List.countP_cons_of_pos ((h a ha).mpr (Or.inr rfl)), List.countP_cons_of_neg (by simp [hp])]
  congr 1
  refine countP_same fun x hx => ?_
  rw [h x (List.mem_of_mem_erase hx)]
  have : x ≠ a := by rintro rfl; exact (List.nodup_cons.mp hn').1 hx
  simp [this]
open Classical in
noncomputable def PP (l : List Int) (n : Nat) (b : Nat → Int) (V : Int → Int) (k : Int) : Nat := l.countP fun y => decide (∃ i, i < n ∧ b i < k ∧ y = V (b i))
section
variable {l : List Int} {n : Nat} {b : Nat → Int} {V : Int → Int} {k : Int}
theorem PP_same (h : ∀ i, i < n → b i = k → ∃ j, j < n ∧ b j < k ∧ V (b j) = V k) : PP l n b V (k + 1) = PP l n b V k := by
  refine countP_same fun y _ => ?_
  rw [decide_eq_true_eq, decide_eq_true_eq]
  constructor
  · rintro ⟨i, h1, h2, h3⟩
    by_cases e : b i = k
    · obtain ⟨j, g1, g2, g3⟩ := h i h1 e
      exact ⟨j, g1, g2, by rw [h3, e, g3]⟩
    · exact ⟨i, h1, by omega, h3⟩
  · rintro ⟨i, h1, h2, h3⟩
    exact ⟨i, h1, by omega, h3⟩
theorem PP_new (hn : l.Nodup) (hm : ∀ i, i < n → V (b i) ∈ l) {i : Nat} (hi : i < n) (he : b i = k) (h : ∀ j, j < n → b j < k → V (b j) ≠ V k) : PP l n b V (k + 1) = PP l n b V k + 1 := by
  refine countP_new (a := V k) hn (he ▸ hm i hi) ?_ fun y _ => ?_
  · rw [decide_eq_false_iff_not]
    rintro ⟨j, g1, g2, g3⟩
    exact h j g1 g2 g3.symm
  · rw [decide_eq_true_eq, decide_eq_true_eq]
    constructor
    · rintro ⟨j, h1, h2, h3⟩
      by_cases e : b j = k
      · exact Or.inr (by rw [h3, e])
      · exact Or.inl ⟨j, h1, by omega, h3⟩
    · rintro (⟨j, h1, h2, h3⟩ | rfl)
      · exact ⟨j, h1, by omega, h3⟩
      · exact ⟨i, hi, by omega, by rw [he]⟩
theorem PP_mono {k' : Int} (h : k ≤ k') : PP l n b V k ≤ PP l n b V k' := by
  refine List.countP_mono_left fun y _ => ?_
  rw [decide_eq_true_eq, decide_eq_true_eq]
  rintro ⟨i, h1, h2, h3⟩
  exact ⟨i, h1, by omega, h3⟩
theorem PP_zero (h : ∀ i, i < n → k ≤ b i) : PP l n b V k = 0 := by
  refine List.countP_eq_zero.mpr fun y _ => ?_
  rw [decide_eq_true_eq]
  rintro ⟨i, h1, h2, h3⟩
  have := h i h1
  omega
end
def Aof (n : Nat) (e : Nat → Int) (x : Int) : Int := ((List.range n).countP fun i => decide (e i ≤ x) : Nat)
def Bof (n : Nat) (b : Nat → Int) (x : Int) : Int := ((List.range n).countP fun j => decide (x ≤ b j) : Nat)
section
variable {n : Nat} {b e : Nat → Int} {x y : Int}
theorem A_mono (h : x ≤ y) : Aof n e x ≤ Aof n e y := by
  refine Int.ofNat_le.mpr (List.countP_mono_left fun i _ hi => ?_)
  rw [decide_eq_true_eq] at hi ⊢; omega
theorem A_lt {i : Nat} (hi : i < n) (h1 : x < e i) (h2 : e i ≤ y) : Aof n e x < Aof n e y := by
  refine Int.ofNat_lt.mpr (countP_lt (fun j _ hj => ?_) ⟨i, List.mem_range.mpr hi, by rw [decide_eq_true_eq]; exact h2, by rw [decide_eq_false_iff_not]; omega⟩)
  rw [decide_eq_true_eq] at hj ⊢; omega
theorem A_eq (h : x ≤ y) (hn : ∀ i, i < n → x < e i → y < e i) : Aof n e x = Aof n e y := by
  refine congrArg Int.ofNat (countP_same fun i hi => ?_)
  have := hn i (List.mem_range.mp hi)
  rw [decide_eq_true_eq, decide_eq_true_eq]; omega
theorem B_anti (h : x ≤ y) : Bof n b y ≤ Bof n b x := by
  refine Int.ofNat_le.mpr (List.countP_mono_left fun i _ hi => ?_)
  rw [decide_eq_true_eq] at hi ⊢; omega
theorem B_lt {i : Nat} (hi : i < n) (h1 : x ≤ b i) (h2 : b i < y) : Bof n b y < Bof n b x := by
  refine Int.ofNat_lt.mpr (countP_lt (fun j _ hj => ?_) ⟨i, List.mem_range.mpr hi, by rw [decide_eq_true_eq]; exact h1, by rw [decide_eq_false_iff_not]; omega⟩)
  rw [decide_eq_true_eq] at hj ⊢; omega
theorem B_eq (h : x ≤ y) (hn : ∀ i, i < n → x ≤ b i → y ≤ b i) : Bof n b x = Bof n b y := by
  refine congrArg Int.ofNat (countP_same fun i hi => ?_)
  have := hn i (List.mem_range.mp hi)
  rw [decide_eq_true_eq, decide_eq_true_eq]; omega
end
theorem getD_set {l : List Int} {i j : Nat} {x : Int} (hj : j < l.length) : (l.set i x).getD j 0 = if i = j then x else l.getD j 0 := by
  rw [List.getD_eq_getElem?_getD, List.getD_eq_getElem?_getD, List.getElem?_set]
  split
  · rename_i h; subst h; rw [if_pos hj]; rfl
  · rfl
def bO (sp : List (Int × Int)) (i : Nat) : Int := (sp.getD i (0, 0)).1
def eO (sp : List (Int × Int)) (i : Nat) : Int := (sp.getD i (0, 0)).2
theorem wkE_spec (sp : List (Int × Int)) (k : Nat) (st : WS) : ∀ j, (wkE sp k st j).bs = st.bs ∧ (wkE sp k st j).lv = st.lv ∧ ((wkE sp k st j).ov = true ↔ st.ov = true ∨ ∃ i, i < j ∧ eO sp i = k) ∧ (wkE sp k st j).es.length = st.es.length ∧
    ∀ i, i < st.es.length → (i < j → eO sp i = k → (wkE sp k st j).es.getD i 0 = st.lv + 1) ∧ (eO sp i ≠ k → (wkE sp k st j).es.getD i 0 = st.es.getD i 0)
  | 0 => ⟨rfl, rfl, ⟨Or.inl, fun h => h.elim id fun ⟨_, h, _⟩ => absurd h (Nat.not_lt_zero _)⟩, rfl, fun i _ => ⟨fun h => absurd h (Nat.not_lt_zero _), fun _ => rfl⟩⟩
  | j + 1 => by
    obtain ⟨h1, h2, h3, h4, h5⟩ := wkE_spec sp k st j
    rw [wkE_succ]
    generalize hst : wkE sp k st j = st' at *
    unfold stE
    change (ite (eO sp j = k) _ _ : WS).bs = _ ∧ _
    by_cases he : eO sp j = k
    · have he' : (sp.getD j (0, 0)).2 = k := he
      simp only [he, he', if_true]
      refine ⟨h1, h2, ⟨fun _ => Or.inr ⟨j, by omega, he⟩, fun _ => trivial⟩, by rw [List.length_set, h4], fun i hi => ⟨fun hij hik => ?_, fun hik => ?_⟩⟩
      · rw [getD_set (by omega)]
        split
        · rw [h2]
        · exact (h5 i hi).1 (by omega) hik
      · rw [getD_set (by omega), if_neg (by rintro rfl; exact hik he)]
        exact (h5 i hi).2 hik
    · have he' : ¬ (sp.getD j (0, 0)).2 = k := he
      simp only [he, he', if_false]
      refine ⟨h1, h2, ?_, h4, fun i hi => ⟨fun hij hik => ?_, (h5 i hi).2⟩⟩
      · rw [h3]
        constructor
        · rintro (h | ⟨i, g1, g2⟩)
          · exact Or.inl h
          · exact Or.inr ⟨i, by omega, g2⟩
        · rintro (h | ⟨i, g1, g2⟩)
          · exact Or.inl h
          · refine Or.inr ⟨i, ?_, g2⟩
            rcases Nat.lt_or_eq_of_le (Nat.le_of_lt_succ g1) with h | rfl
            · exact h
            · exact absurd g2 he
      · refine (h5 i hi).1 ?_ hik
        rcases Nat.lt_or_eq_of_le (Nat.le_of_lt_succ hij) with h | rfl
        · exact h
        · exact absurd hik he
theorem wkB_spec (sp : List (Int × Int)) (k : Nat) (st : WS) : ∀ j, (wkB sp k st j).es = st.es ∧ ((wkB sp k st j).ov = true ↔ st.ov = true ∧ ∀ i, i < j → bO sp i ≠ k) ∧ (wkB sp k st j).bs.length = st.bs.length ∧
    ((∃ i, i < j ∧ bO sp i = k) → (wkB sp k st j).lv = st.lv + if st.ov = true then 1 else 0) ∧ ((∀ i, i < j → bO sp i ≠ k) → (wkB sp k st j).lv = st.lv) ∧
    ∀ i, i < st.bs.length → (i < j → bO sp i = k → (wkB sp k st j).bs.getD i 0 = st.lv + if st.ov = true then 1 else 0) ∧ (bO sp i ≠ k → (wkB sp k st j).bs.getD i 0 = st.bs.getD i 0)
  | 0 => ⟨rfl, ⟨fun h => ⟨h, fun i h => absurd h (Nat.not_lt_zero _)⟩, fun h => h.1⟩, rfl, fun ⟨_, h, _⟩ => absurd h (Nat.not_lt_zero _), fun _ => rfl, fun i _ => ⟨fun h => absurd h (Nat.not_lt_zero _), fun _ => rfl⟩⟩
  | j + 1 => by
    obtain ⟨h1, h3, h4, h6, h7, h5⟩ := wkB_spec sp k st j
    rw [wkB_succ]
    generalize hst : wkB sp k st j = st' at *
    unfold stB
    have hsucc : ∀ {i}, i < j + 1 → i < j ∨ i = j := fun {i} h => by omega
    by_cases he : bO sp j = k
    · have he' : (sp.getD j (0, 0)).1 = k := he
      simp only [he', if_true]
      have hlv : (st'.ov = true ∧ st'.lv = st.lv ∧ st.ov = true) ∨ (st'.ov = false ∧ st'.lv = st.lv + if st.ov = true then 1 else 0) := by
        by_cases ho : st'.ov = true
        · exact Or.inl ⟨ho, h7 (h3.mp ho).2, (h3.mp ho).1⟩
        · refine Or.inr ⟨by simpa using ho, ?_⟩
          by_cases hx : ∃ i, i < j ∧ bO sp i = k
          · exact h6 hx
          · have hx' : ∀ i, i < j → bO sp i ≠ k := fun i hi e => hx ⟨i, hi, e⟩
            rw [h7 hx']
            have : ¬ st.ov = true := fun h => ho (h3.mpr ⟨h, hx'⟩)
            rw [if_neg this]; omega
      have hval : ∀ i, i < st.bs.length → i < j + 1 → bO sp i = k → ∀ (lv' : Int) , lv' = st.lv + (if st.ov = true then 1 else 0) → (st'.bs.set j lv').getD i 0 = st.lv + if st.ov = true then 1 else 0 := by
        intro i hi hij hik lv' hlv'
        rw [getD_set (by omega)]
        split
        · exact hlv'
        · exact (h5 i hi).1 (by omega) hik
      have hval2 : ∀ i, i < st.bs.length → bO sp i ≠ k → ∀ lv' : Int, (st'.bs.set j lv').getD i 0 = st.bs.getD i 0 := by
        intro i hi hik lv'
        rw [getD_set (by omega), if_neg (by rintro rfl; exact hik he)]
        exact (h5 i hi).2 hik
      rcases hlv with ⟨ho, hl, hs⟩ | ⟨ho, hl⟩
      · simp only [ho, if_true]
        refine ⟨h1, iff_of_false (by simp) (fun h => absurd he (h.2 j (by omega))), by rw [List.length_set, h4], fun _ => by rw [hl, if_pos hs], fun h => absurd he (h j (by omega)), fun i hi => ⟨fun hij hik => hval i hi hij hik _ (by rw [hl, if_pos hs]), fun hik => hval2 i hi hik _⟩⟩
      · simp only [ho, Bool.false_eq_true, if_false]
        refine ⟨h1, iff_of_false (by simp) (fun h => absurd he (h.2 j (by omega))), by rw [List.length_set, h4], fun _ => hl, fun h => absurd he (h j (by omega)), fun i hi => ⟨fun hij hik => hval i hi hij hik _ hl, fun hik => hval2 i hi hik _⟩⟩
    · have he' : ¬ (sp.getD j (0, 0)).1 = k := he
      simp only [he', if_false]
      have hall : (∀ i, i < j → bO sp i ≠ k) ↔ ∀ i, i < j + 1 → bO sp i ≠ k := ⟨fun h i hi => (hsucc hi).elim (h i) fun e => e ▸ he, fun h i hi => h i (by omega)⟩
      refine ⟨h1, by rw [h3, hall], h4, fun ⟨i, g1, g2⟩ => h6 ⟨i, (hsucc g1).elim id fun e => absurd (e ▸ g2) he, g2⟩, fun h => h7 (hall.mpr h), fun i hi => ⟨fun hij hik => (h5 i hi).1 ((hsucc hij).elim id fun e => absurd (e ▸ hik) he) hik, (h5 i hi).2⟩⟩
end Mine
end
section
open PySem PySem.W PyProof.Rows PySem.Calls
namespace Mine
set_option maxRecDepth 100000
section
variable {sp : List (Int × Int)} {n : Nat} {fs ls : List Int}
abbrev AA (sp : List (Int × Int)) (n : Nat) : Int → Int := Aof n (eO sp)
abbrev BB (sp : List (Int × Int)) (n : Nat) : Int → Int := Bof n (bO sp)
noncomputable abbrev P_ (fs : List Int) (sp : List (Int × Int)) (n : Nat) (k : Int) : Nat := PP fs n (bO sp) (AA sp n) k
noncomputable abbrev Q_ (ls : List Int) (sp : List (Int × Int)) (n : Nat) (k : Int) : Nat := PP ls n (eO sp) (BB sp n) k
structure WOk (fs ls : List Int) (sp : List (Int × Int)) (n : Nat) (k : Int) (st : WS) : Prop where
  lb : st.bs.length = n
  le : st.es.length = n
  lv : st.lv + 1 = P_ fs sp n k
  ov : st.ov = true ↔ ∀ i, i < n → bO sp i < k → AA sp n (bO sp i) < AA sp n (k - 1)
  lq : st.lv + 1 = Q_ ls sp n k + if st.ov = true then 0 else 1
  d0 : st.ov = false → ∀ i, i < n → eO sp i < k → BB sp n k < BB sp n (eO sp i)
  d1 : st.ov = true → (∀ i, i < n → k ≤ bO sp i) ∨ ∃ i, i < n ∧ eO sp i < k ∧ BB sp n (eO sp i) = BB sp n k
  vb : ∀ i, i < n → bO sp i < k → st.bs.getD i 0 + 1 = P_ fs sp n (bO sp i + 1)
  ve : ∀ i, i < n → eO sp i < k → st.es.getD i 0 = P_ fs sp n (eO sp i) ∧ Q_ ls sp n (eO sp i + 1) = P_ fs sp n (eO sp i)
theorem wok_step (hf : fs.Nodup) (hl : ls.Nodup) (hfm : ∀ i, i < n → AA sp n (bO sp i) ∈ fs) (hlm : ∀ i, i < n → BB sp n (eO sp i) ∈ ls) (hbe : ∀ i, i < n → bO sp i < eO sp i)
    {k : Nat} {st : WS} (W : WOk fs ls sp n k st) : WOk fs ls sp n ((k : Int) + 1) (wkRow sp n st k) := by
  unfold wkRow
  obtain ⟨e1, e2, e3, e4, e5⟩ := wkE_spec sp k st n
  generalize wkE sp k st n = s1 at *
  obtain ⟨b1, b3, b4, b6, b7, b5⟩ := wkB_spec sp k s1 n
  generalize wkB sp k s1 n = s2 at *
  have ov1 : s1.ov = true ↔ ∀ i, i < n → bO sp i < k → AA sp n (bO sp i) < AA sp n k := by
    rw [e3]
    constructor
    · rintro (h | ⟨j, hj, he⟩) i hi hik
      · exact Int.lt_of_lt_of_le (W.ov.mp h i hi hik) (A_mono (by omega))
      · exact A_lt hj (by omega) (by omega)
    · intro h
      by_cases hx : ∃ j, j < n ∧ eO sp j = k
      · exact Or.inr hx
      · refine Or.inl (W.ov.mpr fun i hi hik => ?_)
        have := h i hi hik
        have hA : AA sp n ((k : Int) - 1) = AA sp n k := A_eq (by omega) fun j hj hk1 => by
          have : eO sp j ≠ k := fun e => hx ⟨j, hj, e⟩
          omega
        rw [hA]; exact this
  have hk1 : ∀ {x : Int}, x < (k : Int) + 1 → x < k ∨ x = k := fun {x} h => by omega
  -- the begins at this border
  have hP : (∃ i, i < n ∧ bO sp i = k) → P_ fs sp n ((k : Int) + 1) = P_ fs sp n k + if s1.ov = true then 1 else 0 := by
    rintro ⟨i, hi, hik⟩
    by_cases ho : s1.ov = true
    · rw [if_pos ho]
      exact PP_new hf hfm hi hik fun j hj hjk => Int.ne_of_lt (ov1.mp ho j hj hjk)
    · rw [if_neg ho, Nat.add_zero]
      refine PP_same fun i' hi' hik' => ?_
      have : ¬ ∀ i, i < n → bO sp i < k → AA sp n (bO sp i) < AA sp n k := fun h => ho (ov1.mpr h)
      simp only [Classical.not_forall] at this
      obtain ⟨j, hj, hjk, hlt⟩ := this
      exact ⟨j, hj, hjk, Int.le_antisymm (A_mono (by omega)) (Int.not_lt.mp hlt)⟩
  have hP0 : (∀ i, i < n → bO sp i ≠ k) → P_ fs sp n ((k : Int) + 1) = P_ fs sp n k := fun h => PP_same fun i hi hik => absurd hik (h i hi)
  -- the ends at this border
  have hQ : (Q_ ls sp n ((k : Int) + 1) : Int) + (if s1.ov = true then 0 else 1) = Q_ ls sp n k + if st.ov = true then 0 else 1 := by
    by_cases hx : ∃ j, j < n ∧ eO sp j = k
    · obtain ⟨j, hj, hjk⟩ := hx
      rw [if_pos (e3.mpr (Or.inr ⟨j, hj, hjk⟩))]
      by_cases ho : st.ov = true
      · rw [if_pos ho]
        have : Q_ ls sp n ((k : Int) + 1) = Q_ ls sp n k := by
          refine PP_same fun i hi hik => ?_
          rcases W.d1 ho with h | h
          · have := h i hi; have := hbe i hi; omega
          · exact h
        rw [this]
      · rw [if_neg ho]
        have : Q_ ls sp n ((k : Int) + 1) = Q_ ls sp n k + 1 := PP_new hl hlm hj hjk fun i hi hik => Int.ne_of_gt (W.d0 (by simpa using ho) i hi hik)
        rw [this]; omega
    · have hx' : ∀ i, i < n → eO sp i ≠ k := fun i hi e => hx ⟨i, hi, e⟩
      have ho : s1.ov = true ↔ st.ov = true := by rw [e3]; exact ⟨fun h => h.elim id fun h => absurd h hx, Or.inl⟩
      have : Q_ ls sp n ((k : Int) + 1) = Q_ ls sp n k := PP_same fun i hi hik => absurd hik (hx' i hi)
      rw [this]
      by_cases h : st.ov = true
      · rw [if_pos h, if_pos (ho.mpr h)]
      · rw [if_neg h, if_neg (fun g => h (ho.mp g))]
  have hlv := W.lv
  have hlq := W.lq
  have hbb := W.lb
  have hee := W.le
  have ov2 : s2.ov = true ↔ s1.ov = true ∧ ∀ i, i < n → bO sp i ≠ k := b3
  refine ⟨by rw [b4, e1, hbb], by rw [b1, e4, hee], ?_, ?_, ?_, ?_, ?_, ?_, ?_⟩
  · by_cases hx : ∃ i, i < n ∧ bO sp i = k
    · rw [b6 hx, hP hx, e2]
      split
      · simp; omega
      · simp; omega
    · have hx' : ∀ i, i < n → bO sp i ≠ k := fun i hi e => hx ⟨i, hi, e⟩
      rw [b7 hx', hP0 hx', e2, hlv]
  · rw [ov2, show ((k : Int) + 1 - 1) = k by omega]
    constructor
    · rintro ⟨h1, h2⟩ i hi hik
      rcases hk1 hik with h | h
      · exact ov1.mp h1 i hi h
      · exact absurd h (h2 i hi)
    · intro h
      refine ⟨ov1.mpr fun i hi hik => h i hi (by omega), fun i hi e => ?_⟩
      have := h i hi (by omega)
      rw [e] at this
      exact Int.lt_irrefl _ this
  · by_cases hx : ∃ i, i < n ∧ bO sp i = k
    · rw [b6 hx, e2, if_neg (show ¬ s2.ov = true from fun h => by obtain ⟨i, hi, e⟩ := hx; exact (ov2.mp h).2 i hi e)]
      rw [← hlq] at hQ
      by_cases ho : s1.ov = true
      · rw [if_pos ho] at hQ ⊢; omega
      · rw [if_neg ho] at hQ ⊢; omega
    · have hx' : ∀ i, i < n → bO sp i ≠ k := fun i hi e => hx ⟨i, hi, e⟩
      rw [b7 hx', e2, hlq, ← hQ]
      by_cases ho : s1.ov = true
      · rw [if_pos ho, if_pos (ov2.mpr ⟨ho, hx'⟩)]
      · rw [if_neg ho, if_neg (fun h => ho (ov2.mp h).1)]
  · intro ho i hi hik
    by_cases hx : ∃ i, i < n ∧ bO sp i = k
    · obtain ⟨j, hj, hjk⟩ := hx
      exact B_lt hj (by omega) (by omega)
    · have hx' : ∀ i, i < n → bO sp i ≠ k := fun i hi e => hx ⟨i, hi, e⟩
      have h1 : ¬ s1.ov = true := fun h => by rw [ov2.mpr ⟨h, hx'⟩] at ho; cases ho
      have h2 : st.ov = false := by
        cases e : st.ov with
        | false => rfl
        | true => exact absurd (e3.mpr (Or.inl e)) h1
      have h3 : eO sp i ≠ k := fun e => h1 (e3.mpr (Or.inr ⟨i, hi, e⟩))
      exact Int.lt_of_le_of_lt (B_anti (by omega)) (W.d0 h2 i hi (by omega))
  · intro ho
    obtain ⟨h1, h2⟩ := ov2.mp ho
    have hB : BB sp n k = BB sp n ((k : Int) + 1) := B_eq (by omega) fun i hi h => by have := h2 i hi; omega
    rcases e3.mp h1 with h | ⟨j, hj, hjk⟩
    · rcases W.d1 h with g | ⟨i, hi, hik, g⟩
      · refine Or.inl fun i hi => ?_
        have := g i hi; have := h2 i hi; omega
      · exact Or.inr ⟨i, hi, by omega, by rw [g, hB]⟩
    · exact Or.inr ⟨j, hj, by omega, by rw [hjk, hB]⟩
  · intro i hi hik
    rcases hk1 hik with h | h
    · rw [(b5 i (by rw [e1]; omega)).2 (by omega), e1]
      exact W.vb i hi h
    · rw [(b5 i (by rw [e1]; omega)).1 hi h, e2, h, hP ⟨i, hi, h⟩]
      split
      · simp; omega
      · simp; omega
  · intro i hi hik
    rw [b1]
    rcases hk1 hik with h | h
    · rw [(e5 i (by omega)).2 (by omega)]
      exact W.ve i hi h
    · rw [(e5 i (by omega)).1 hi h, h]
      rw [if_pos (e3.mpr (Or.inr ⟨i, hi, h⟩))] at hQ
      refine ⟨hlv, ?_⟩
      omega
theorem wok_at (hf : fs.Nodup) (hl : ls.Nodup) (hfm : ∀ i, i < n → AA sp n (bO sp i) ∈ fs) (hlm : ∀ i, i < n → BB sp n (eO sp i) ∈ ls) (hbe : ∀ i, i < n → bO sp i < eO sp i) (h0 : ∀ i, i < n → 0 ≤ bO sp i) :
    ∀ k : Nat, WOk fs ls sp n k (wkAt sp n k)
  | 0 => by
    have hneg : ∀ i, i < n → ¬ bO sp i < ((0 : Nat) : Int) := fun i hi => by have := h0 i hi; omega
    have hneg2 : ∀ i, i < n → ¬ eO sp i < ((0 : Nat) : Int) := fun i hi => by have := h0 i hi; have := hbe i hi; omega
    have p0 : P_ fs sp n ((0 : Nat) : Int) = 0 := PP_zero fun i hi => by have := hneg i hi; omega
    have q0 : Q_ ls sp n ((0 : Nat) : Int) = 0 := PP_zero fun i hi => by have := hneg2 i hi; omega
    refine ⟨List.length_replicate, List.length_replicate, ?_, ⟨fun _ i hi h => absurd h (hneg i hi), fun _ => rfl⟩, ?_, (fun h => nomatch h), fun _ => Or.inl fun i hi => by have := h0 i hi; omega, fun i hi h => absurd h (hneg i hi), fun i hi h => absurd h (hneg2 i hi)⟩
    · rw [p0]; rfl
    · rw [q0]; rfl
  | k + 1 => by
    rw [wkAt_succ]
    have := wok_step hf hl hfm hlm hbe (wok_at hf hl hfm hlm hbe h0 k)
    exact_mod_cast this
end
def fO (sp : List (Int × Int)) (i j : Nat) : Bool := decide (eO sp i ≤ bO sp j)
theorem aheadC_eq (sp : List (Int × Int)) (n e : Nat) : aheadC n (fO sp) e = AA sp n (bO sp e) := by
  show _ = Aof n (eO sp) (bO sp e)
  unfold aheadC Aof
  rw [List.countP_map]
  rfl
theorem behindC_eq (sp : List (Int × Int)) (n e : Nat) : behindC n (fO sp) e = BB sp n (eO sp e) := by
  show _ = Bof n (bO sp) (eO sp e)
  unfold behindC Bof
  rw [List.countP_map]
  rfl
section
variable {sp : List (Int × Int)} {n : Nat}
theorem first_mem (sp : List (Int × Int)) (n : Nat) (x : Int) : x ∈ unlike (aheadL n (fO sp)) ↔ ∃ i, i < n ∧ x = AA sp n (bO sp i) := by
  rw [(unlike_set _).2]
  unfold aheadL
  rw [List.mem_map]
  constructor
  · rintro ⟨i, hi, rfl⟩; exact ⟨i, List.mem_range.mp hi, aheadC_eq sp n i⟩
  · rintro ⟨i, hi, rfl⟩; exact ⟨i, List.mem_range.mpr hi, aheadC_eq sp n i⟩
theorem last_mem (sp : List (Int × Int)) (n : Nat) (x : Int) : x ∈ unlike (behindL n (fO sp)) ↔ ∃ i, i < n ∧ x = BB sp n (eO sp i) := by
  rw [(unlike_set _).2]
  unfold behindL
  rw [List.mem_map]
  constructor
  · rintro ⟨i, hi, rfl⟩; exact ⟨i, List.mem_range.mp hi, behindC_eq sp n i⟩
  · rintro ⟨i, hi, rfl⟩; exact ⟨i, List.mem_range.mpr hi, behindC_eq sp n i⟩
/-- the row of a border -/
noncomputable def rowOf (sp : List (Int × Int)) (n : Nat) (k : Int) : Nat := P_ (unlike (aheadL n (fO sp))) sp n k
theorem walked_ok (hbe : ∀ i, i < n → bO sp i < eO sp i) (h0 : ∀ i, i < n → 0 ≤ bO sp i) (k : Nat) : WOk (unlike (aheadL n (fO sp))) (unlike (behindL n (fO sp))) sp n k (wkAt sp n k) :=
  wok_at (unlike_set _).1 (unlike_set _).1 (fun i hi => (first_mem sp n _).mpr ⟨i, hi, rfl⟩) (fun i hi => (last_mem sp n _).mpr ⟨i, hi, rfl⟩) hbe h0 k
theorem row_begin {e : Nat} (he : e < n) : rowOf sp n (bO sp e + 1) = (unlike (aheadL n (fO sp))).countP (fun y => decide (y < aheadC n (fO sp) e)) + 1 := by
  rw [aheadC_eq]
  refine countP_new (a := AA sp n (bO sp e)) (unlike_set _).1 ((first_mem sp n _).mpr ⟨e, he, rfl⟩) (by rw [decide_eq_false_iff_not]; omega) fun y hy => ?_
  obtain ⟨i, hi, rfl⟩ := (first_mem sp n _).mp hy
  rw [decide_eq_true_eq, decide_eq_true_eq]
  constructor
  · rintro ⟨j, hj, hjk, h⟩
    have : AA sp n (bO sp j) ≤ AA sp n (bO sp e) := A_mono (by omega)
    omega
  · rintro (h | h)
    · refine ⟨i, hi, ?_, rfl⟩
      rcases Int.lt_or_le (bO sp i) (bO sp e) with g | g
      · omega
      · have : AA sp n (bO sp e) ≤ AA sp n (bO sp i) := A_mono g
        omega
    · exact ⟨e, he, by omega, h⟩
theorem row_end {e : Nat} (he : e < n) : Q_ (unlike (behindL n (fO sp))) sp n (eO sp e + 1) + (unlike (behindL n (fO sp))).countP (fun y => decide (y < behindC n (fO sp) e)) = (unlike (behindL n (fO sp))).length := by
  rw [List.length_eq_countP_add_countP (fun y => decide (y < behindC n (fO sp) e)), Nat.add_comm]
  congr 1
  refine countP_same fun y hy => ?_
  obtain ⟨i, hi, rfl⟩ := (last_mem sp n _).mp hy
  rw [behindC_eq, decide_eq_true_eq]
  constructor
  · rintro ⟨j, hj, hjk, h⟩
    have : BB sp n (eO sp e) ≤ BB sp n (eO sp j) := B_anti (by omega)
    simp; omega
  · intro h
    have h' : BB sp n (eO sp e) ≤ BB sp n (eO sp i) := by simpa using h
    rcases Int.lt_or_le (eO sp e) (eO sp i) with g | g
    · have := B_anti (n := n) (b := bO sp) (Int.le_of_lt g)
      exact ⟨e, he, by omega, Int.le_antisymm this h'⟩
    · exact ⟨i, hi, by omega, rfl⟩
theorem told_rows (hbe : ∀ i, i < n → bO sp i < eO sp i) (h0 : ∀ i, i < n → 0 ≤ bO sp i) (h6 : ∀ i, i < n → eO sp i ≤ 6) {e : Nat} (he : e < n) :
    (toldP n (fO sp) e).1 + 1 = rowOf sp n (bO sp e + 1) ∧ (toldP n (fO sp) e).2 = rowOf sp n (eO sp e) := by
  have W := walked_ok hbe h0 7
  refine ⟨by rw [row_begin he]; rfl, ?_⟩
  have h := (W.ve e he (by have := h6 e he; omega)).2
  have h2 := row_end (sp := sp) he
  unfold toldP rowOf
  dsimp only
  omega
theorem told_walked (hbe : ∀ i, i < n → bO sp i < eO sp i) (h0 : ∀ i, i < n → 0 ≤ bO sp i) (h6 : ∀ i, i < n → eO sp i ≤ 6) : told n (fO sp) = walked sp n := by
  have W := walked_ok hbe h0 7
  refine List.map_congr_left fun e he => ?_
  have he := List.mem_range.mp he
  obtain ⟨h1, h2⟩ := told_rows hbe h0 h6 he
  have h3 := (W.ve e he (by have := h6 e he; omega)).1
  have h4 := W.vb e he (by have := h6 e he; have := hbe e he; omega)
  refine Prod.ext ?_ ?_
  · dsimp only
    unfold rowOf at h1
    omega
  · dsimp only
    rw [h2, h3]; rfl
theorem row_lt {i : Nat} {k : Int} (hk : bO sp i < k) : rowOf sp n (bO sp i + 1) ≤ rowOf sp n k := PP_mono (by omega)
theorem row_small (hbe : ∀ i, i < n → bO sp i < eO sp i) (h0 : ∀ i, i < n → 0 ≤ bO sp i) : ∀ k : Nat, rowOf sp n k ≤ k
  | 0 => by
    have : rowOf sp n ((0 : Nat) : Int) = 0 := PP_zero fun i hi => by have := h0 i hi; omega
    omega
  | k + 1 => by
    have ih := row_small hbe h0 k
    have h1 := (walked_ok (sp := sp) hbe h0 k)
    have h2 := (walked_ok (sp := sp) hbe h0 (k + 1))
    have : rowOf sp n ((k + 1 : Nat) : Int) ≤ rowOf sp n k + 1 := by
      have e : ((k + 1 : Nat) : Int) = (k : Int) + 1 := by omega
      rw [e]
      by_cases hx : ∃ i, i < n ∧ bO sp i = k ∧ ∀ j, j < n → bO sp j < k → AA sp n (bO sp j) ≠ AA sp n k
      · obtain ⟨i, hi, hik, h⟩ := hx
        exact Nat.le_of_eq (PP_new (unlike_set _).1 (fun i hi => (first_mem sp n _).mpr ⟨i, hi, rfl⟩) hi hik h)
      · refine Nat.le_trans (Nat.le_of_eq (PP_same fun i hi hik => ?_)) (Nat.le_succ _)
        refine Classical.byContradiction fun hn => hx ⟨i, hi, hik, fun j hj hjk e => hn ⟨j, hj, hjk, e⟩⟩
    omega
theorem told_order (hbe : ∀ i, i < n → bO sp i < eO sp i) (h0 : ∀ i, i < n → 0 ≤ bO sp i) (h6 : ∀ i, i < n → eO sp i ≤ 6) {i j : Nat} (hi : i < n) (hj : j < n) :
    (toldP n (fO sp) i).2 ≤ (toldP n (fO sp) j).1 ↔ eO sp i ≤ bO sp j := by
  obtain ⟨_, h2⟩ := told_rows hbe h0 h6 hi
  obtain ⟨h1, _⟩ := told_rows hbe h0 h6 hj
  constructor
  · intro h
    rcases Int.lt_or_le (bO sp j) (eO sp i) with g | g
    · have := row_lt (n := n) g; omega
    · exact g
  · intro h
    have : rowOf sp n (eO sp i) < rowOf sp n (bO sp j + 1) := by
      refine countP_lt (fun y _ => ?_) ⟨AA sp n (bO sp j), (first_mem sp n _).mpr ⟨j, hj, rfl⟩, ?_, ?_⟩
      · rw [decide_eq_true_eq, decide_eq_true_eq]
        rintro ⟨a, g1, g2, g3⟩
        exact ⟨a, g1, by omega, g3⟩
      · rw [decide_eq_true_eq]
        exact ⟨j, hj, by omega, rfl⟩
      · rw [decide_eq_false_iff_not]
        rintro ⟨a, g1, g2, g3⟩
        have : AA sp n (bO sp a) < AA sp n (bO sp j) := A_lt hi g2 h
        omega
    omega
end
end Mine
end
section
open PySem PySem.W PyProof.Rows PySem.Calls
namespace Mine
set_option maxRecDepth 100000
/-- the stretches that the script's numbers name -/
def picked (ms : List Int) : List (Int × Int) := ms.map fun x => (bord 6).getD (x % 21).toNat (0, 0)
theorem fr_keepL {h₀ h h' : Heap} {L : Addr} {m m' : Str → Option Value} (F : Fr h₀ L h m) (hn : h'.Ns L m') (hk : KeepL L h h') : Fr h₀ L h' m' :=
  ⟨hn, fun b o e => hk b o (Nat.ne_of_lt (Nat.lt_of_lt_of_le (Heap.lt_size e) F.above)) (F.keep b o e), F.above⟩
theorem pairs_picked {h h' : Heap} {L D' : Addr} {m : Str → Option Value} {vb : List Value} {ms : List Int} {rs : List (Value × List (Addr × Obj))} (hn : h.Ns L m) (hk : KeepL L h h')
    (hrb : ∀ (i : Nat) (p : Int × Int), (bord 6)[i]? = some p → ∃ (T : Addr) (t1 t2 : Tok), vb[i]? = some (Value.ref T) ∧ IsTup h T #[Value.int p.1 t1, Value.int p.2 t2])
    (hl : h'.IsList D' (rs.map (·.1)).toArray) (hlen : rs.length = ms.length) (hG : ∀ (i : Nat) (r : Value × List (Addr × Obj)), rs[i]? = some r → vb[(ms.getD i 0 % 21).toNat]? = some r.1) : PairsAt h' D' (picked ms) := by
  refine ⟨rs.map (·.1), hl, by simp [picked, hlen], fun i p hp => ?_⟩
  unfold picked at hp
  rw [List.getElem?_map] at hp
  have hi : i < ms.length := by
    rcases Nat.lt_or_ge i ms.length with h | h
    · exact h
    · rw [List.getElem?_eq_none h] at hp; cases hp
  have hmi : ms[i]? = some (ms.getD i 0) := by simp [List.getD, hi]
  rw [hmi, Option.map_some] at hp
  injection hp with hp
  have hr' : rs[i]? = some rs[i] := by simp
  have hg := hG i _ hr'
  have h0 := Int.emod_nonneg (ms.getD i 0) (show (21 : Int) ≠ 0 by decide)
  have h1 := Int.emod_lt_of_pos (ms.getD i 0) (show (21 : Int) > 0 by decide)
  have hb : (bord 6).length = 21 := by decide
  have hp' : (bord 6)[(ms.getD i 0 % 21).toNat]? = some p := by
    rw [← hp]; simp only [List.getD_eq_getElem?_getD]; rw [List.getElem?_eq_getElem (by simp only [List.getD_eq_getElem?_getD] at h0 h1; omega)]; rfl
  obtain ⟨T, t1, t2, e1, e2⟩ := hrb _ p hp'
  rw [hg] at e1
  injection e1 with e1
  exact ⟨T, t1, t2, by rw [List.getElem?_map, hr', Option.map_some, e1], isTup_keepL e2 hn hk⟩
theorem bord_ok : ∀ p ∈ bord 6, 0 ≤ p.1 ∧ p.1 < p.2 ∧ p.2 ≤ 6 := by decide
theorem picked_ok (ms : List Int) : ∀ p ∈ picked ms, 0 ≤ p.1 ∧ p.1 < p.2 ∧ p.2 ≤ 6 := by
  intro p hp
  obtain ⟨x, _, rfl⟩ := List.mem_map.mp hp
  have h0 := Int.emod_nonneg x (show (21 : Int) ≠ 0 by decide)
  have h1 := Int.emod_lt_of_pos x (show (21 : Int) > 0 by decide)
  have hb : (bord 6).length = 21 := by decide
  refine bord_ok _ ?_
  rw [List.getD_eq_getElem?_getD, List.getElem?_eq_getElem (by omega)]
  exact List.getElem_mem _
theorem picked_length (ms : List Int) : (picked ms).length = ms.length := List.length_map ..
/-- the plain law of the texts -/
def TextLaw : Prop := ∀ (v : Int) (sp : List (Int × Int)) (z : Nat), sp.length ≤ 10 → z ≤ 6 → (∀ p ∈ sp, 0 ≤ p.1 ∧ p.1 < p.2 ∧ p.2 ≤ z) →
  (∀ i, i < sp.length → (partOf v sp i).length ≤ 100) ∧
  (∀ i j, i < sp.length → j < sp.length → (ansTxt v sp i j).length ≤ 1000 ∧ (∃ mid, Txt.split (ansTxt v sp i j) (Str.ofString "...") = Str.empty :: (mid ++ [Str.empty])) ∧
    Txt.contains (ansTxt v sp i j) (Str.ofString "...") = true ∧ seqFind (mailQ v v 0 z) (Txt.split (ansTxt v sp i j) (Str.ofString "...")) 0 = fO sp i j) ∧
  (mailQ v v 0 z).length ≤ 1000
theorem fO_all {sp : List (Int × Int)} (i j : Nat) (p q : Int × Int) (hp : sp[i]? = some p) (hq : sp[j]? = some q) : fO sp i j = decide (p.2 ≤ q.1) := by
  unfold fO eO bO
  rw [List.getD_eq_getElem?_getD, List.getD_eq_getElem?_getD, hp, hq]; rfl
theorem sp_facts {sp : List (Int × Int)} (hok : ∀ p ∈ sp, 0 ≤ p.1 ∧ p.1 < p.2 ∧ p.2 ≤ 6) : (∀ i, i < sp.length → bO sp i < eO sp i) ∧ (∀ i, i < sp.length → 0 ≤ bO sp i) ∧ ∀ i, i < sp.length → eO sp i ≤ 6 := by
  have h : ∀ i, i < sp.length → 0 ≤ bO sp i ∧ bO sp i < eO sp i ∧ eO sp i ≤ 6 := fun i hi => by
    unfold bO eO
    rw [List.getD_eq_getElem?_getD, List.getElem?_eq_getElem hi]
    exact hok _ (List.getElem_mem hi)
  exact ⟨fun i hi => (h i hi).2.1, fun i hi => (h i hi).1, fun i hi => (h i hi).2.2⟩
theorem told_length (n : Nat) (f : Nat → Nat → Bool) : (told n f).length = n := by simp [told]
theorem told_ok {sp : List (Int × Int)} (hok : ∀ p ∈ sp, 0 ≤ p.1 ∧ p.1 < p.2 ∧ p.2 ≤ 6) : ∀ p ∈ told sp.length (fO sp), 0 ≤ p.1 ∧ p.1 < p.2 ∧ p.2 ≤ 6 := by
  obtain ⟨hbe, h0, h6⟩ := sp_facts hok
  intro p hp
  obtain ⟨e, he, rfl⟩ := List.mem_map.mp hp
  have he := List.mem_range.mp he
  obtain ⟨h1, h2⟩ := told_rows hbe h0 h6 he
  have h3 := row_lt (n := sp.length) (hbe e he)
  have h4 := row_begin (sp := sp) (n := sp.length) he
  have h5 := row_small hbe h0 (eO sp e).toNat
  rw [Int.toNat_of_nonneg (by have := h0 e he; have := hbe e he; omega)] at h5
  have := h6 e he
  have := h0 e he
  have := hbe e he
  omega
theorem told_fO {sp : List (Int × Int)} (hok : ∀ p ∈ sp, 0 ≤ p.1 ∧ p.1 < p.2 ∧ p.2 ≤ 6) {i j : Nat} (hi : i < sp.length) (hj : j < sp.length) : fO (told sp.length (fO sp)) i j = fO sp i j := by
  obtain ⟨hbe, h0, h6⟩ := sp_facts hok
  have g : ∀ k, k < sp.length → (told sp.length (fO sp)).getD k (0, 0) = toldP sp.length (fO sp) k := fun k hk => by
    simp [told, List.getD, hk]
  have := told_order hbe h0 h6 hi hj
  show decide (((told sp.length (fO sp)).getD i (0, 0)).2 ≤ ((told sp.length (fO sp)).getD j (0, 0)).1) = decide _
  rw [g i hi, g j hj]
  exact decide_eq_decide.mpr this
theorem told_all {sp : List (Int × Int)} (hok : ∀ p ∈ sp, 0 ≤ p.1 ∧ p.1 < p.2 ∧ p.2 ≤ 6) (i j : Nat) (p q : Int × Int) (hp : sp[i]? = some p) (hq : sp[j]? = some q) : fO (told sp.length (fO sp)) i j = decide (p.2 ≤ q.1) := by
  rw [told_fO hok (List.getElem?_eq_some_iff.mp hp).1 (List.getElem?_eq_some_iff.mp hq).1]
  exact fO_all i j p q hp hq
end Mine
end
section
open PySem PySem.W PyProof.Rows PySem.Calls
namespace Mine
set_option maxRecDepth 100000
set_option maxHeartbeats 8000000
def pdAll (sp : List (Int × Int)) : List PyData := sp.map fun p => .tuple [.int p.1, .int p.2]
theorem pd_can : ∀ sp : List (Int × Int), PyData.canLayAll0 (pdAll sp) = true
  | [] => rfl
  | _ :: r => by
    show PyData.canLayAll0 (_ :: pdAll r) = true
    simp [PyData.canLayAll0, PyData.canLay0, pd_can r]
theorem pd_depth : ∀ sp : List (Int × Int), PyData.depthAll (pdAll sp) ≤ 1
  | [] => Nat.zero_le _
  | _ :: r => by
    have := pd_depth r
    show PyData.depthAll (_ :: pdAll r) ≤ 1
    simp [PyData.depthAll, PyData.depth]; omega
theorem pd_shaped (sp : List (Int × Int)) : SeqAt.shaped (.list (pdAll sp)) = true := by
  have := pd_depth sp
  simp [SeqAt.shaped, PyData.canLay0, PyData.depth, pd_can]; omega
theorem pd_eqv : ∀ sp : List (Int × Int), PyData.eqvAll (pdAll sp) (pdAll sp) = true
  | [] => rfl
  | _ :: r => by
    show PyData.eqvAll (_ :: pdAll r) (_ :: pdAll r) = true
    simp [PyData.eqvAll, PyData.eqv, pd_eqv r]
theorem reads_pairs {h : Heap} : ∀ (vs : List Value) (sp : List (Int × Int)), vs.length = sp.length →
    (∀ (i : Nat) (p : Int × Int), sp[i]? = some p → ∃ (T : Addr) (t1 t2 : Tok), vs[i]? = some (Value.ref T) ∧ IsTup h T #[Value.int p.1 t1, Value.int p.2 t2]) → ∃ as, ReadsAll h vs (pdAll sp) as
  | [], [], _, _ => ⟨_, .nil⟩
  | [], _ :: _, h, _ => by cases h
  | _ :: _, [], h, _ => by cases h
  | v :: vs, p :: sp, hl, hx => by
    obtain ⟨T, t1, t2, e, o, ho, hc, n, hd⟩ := hx 0 p rfl
    injection e with e
    subst e
    obtain ⟨as, hr⟩ := reads_pairs vs sp (by simpa using hl) fun i q hq => hx (i + 1) q (by simpa using hq)
    exact ⟨_, .cons (.tuple ho hc hd (.cons (.int _ _) (.cons (.int _ _) .nil))) hr⟩
theorem PairsAt.reads {h : Heap} {a : Addr} {sp : List (Int × Int)} (x : PairsAt h a sp) : ∃ as, Reads h (.ref a) (.list (pdAll sp)) as := by
  obtain ⟨vs, ⟨o, ho, hc, n, hd⟩, h2, h3⟩ := x.ex
  obtain ⟨as, hr⟩ := reads_pairs vs sp h2 h3
  exact ⟨_, .list ho hc hd (by simpa using hr)⟩
section
variable {prog : Program} {w : World} {A : Around} {E : Value → Shared → Prop} {s : Shared}
theorem ne_pairs {a b : Addr} {sp : List (Int × Int)} {Q : Value → Shared → Prop} (ha : PairsAt s.heap a sp) (hb : PairsAt s.heap b sp) (hu : A.units + 64 < cLine) (h : Q (.bool false) s) :
    wpAny (model prog w) A (compareOp .NotEq (.ref a) (.ref b)) Q E s := by
  obtain ⟨as, ra⟩ := ha.reads
  obtain ⟨bs, rb⟩ := hb.reads
  refine ne_dataH ra rb (pd_shaped sp) (pd_shaped sp) hu ?_
  have : PyData.eqv (.list (pdAll sp)) (.list (pdAll sp)) = true := by simp only [PyData.eqv]; exact pd_eqv sp
  rw [this]; exact h
end
section
variable {prog : Program} {w : World} {A : Around} {E : Value → Shared → Prop} {env : Env} {s : Shared}
/-- [b for a, b in pairs] -/
theorem comp_second {a b : Str} {pa pb pe tp pos : Pos} {kk : Nat} {iterO : PySem.Expr} {scope : Scope} {Q : Value → Shared → Prop} (hh : A.handled = none) (hclos : closureFor scope env = pure []) (hkind : scope.kind = .function)
    (hnames : ∀ y ∈ scope.names, y.2 = .local → scope.names.lookup y.1 = some .local) (hcell : ∀ y ∈ scope.names, y.2 ≠ .cell) (hxa : scope.names.lookup a = some .local) (hxb : scope.names.lookup b = some .local) (hbd : (b == ("__debug__" : Str)) = false)
    (h : wpAny (model prog w) A (eval iterO env) (fun xv s₁ => ∃ (l : Addr) (sp : List (Int × Int)), xv = .ref l ∧ PairsAt s₁.heap l sp ∧ sp.length ≤ 10 ∧
      ∀ D h' tk vs, h'.PlainList D (vs : List Value).toArray → IntsAre vs (sp.map (·.2)) → s₁.heap.get? D = none → Ext s₁.heap h' → Q (.ref D) { s₁ with heap := h', toks := tk }) E s)
    (hs : ∀ x, foldedSetIterable iterO env x = pure x := by intro _; rfl) :
    wpAny (model prog w) A (eval (.ListComp (.Name b pe) [⟨.Tuple [.Name a pa, .Name b pb] kk tp, iterO, [], 0⟩] scope pos) env) Q E s := by
  rw [eval_ListComp]
  refine wpAny_comprehension_free (use := none) rfl hs hclos hkind hnames (wpAny_mono h (fun xv s₁ h₁ => ?_) fun _ _ e => e)
  obtain ⟨l, sp, rfl, hP, hn10, hQ⟩ := h₁
  obtain ⟨vs, hl, hvs, hrs⟩ := hP.ex
  obtain ⟨ol, hol, _⟩ := id hl
  have hllt : l < s₁.heap.objs.size := Heap.lt_size hol
  refine wpAny_pyIter_list hl ?_
  have W := Walks.list (prog := prog) (w := w) (A := A) hh s₁.heap.objs.size l (Nat.ne_of_lt hllt) vs.toArray
  generalize hoI : ({ cls := .type "list_iterator", data := _ } : Obj) = oI
  have hst : (s₁.heap.push oI).IsListIter s₁.heap.objs.size l 0 ∧ (s₁.heap.push oI).IsList l vs.toArray := ⟨⟨_, Heap.get?_push_size _ (by rw [← hoI]; rfl), by rw [← hoI], by rw [← hoI]; rfl⟩, hl.at fun o e => Heap.get?_push_of_some _ e⟩
  obtain ⟨I, hI⟩ : ∃ I, I = s₁.heap.objs.size := ⟨_, rfl⟩
  rw [← hI] at W hst ⊢
  refine wpAny_newObj_type (newEnv_comp ?_)
  dsimp only
  rw [noCells_push (names := scope.names) hcell, noCells_from (names := scope.names) hcell]
  generalize hH2 : (s₁.heap.push oI).push { cls := .type "list", dict := none, data := .seq ([] : List Value).toArray } = H2
  have hD : (s₁.heap.push oI).objs.size = s₁.heap.objs.size + 1 := Heap.size_push ..
  have hC : H2.objs.size = s₁.heap.objs.size + 1 + 1 := by rw [← hH2, Heap.size_push, hD]
  have up₂ : ∀ b o, (s₁.heap.push oI).get? b = some o → (H2.push { cls := .type "dict", data := .dict #[] }).get? b = some o := fun b o e => Heap.get?_push_of_some _ (hH2 ▸ Heap.get?_push_of_some _ e)
  have hD₁ : (H2.push { cls := .type "dict", data := .dict #[] }).PlainList (s₁.heap.push oI).objs.size #[] := ⟨0, Heap.get?_push_of_some _ (hH2 ▸ Heap.get?_push_size _ rfl)⟩
  have hst₁ : (H2.push { cls := .type "dict", data := .dict #[] }).IsListIter I l 0 ∧ (H2.push { cls := .type "dict", data := .dict #[] }).IsList l vs.toArray := W.frame _ _ _ hst fun b _ o e => up₂ b o e
  have hDC : (s₁.heap.push oI).objs.size ≠ H2.objs.size := by rw [hC, hD]; exact Nat.ne_of_lt (Nat.lt_succ_self _)
  have old : ∀ b o, s₁.heap.get? b = some o → (H2.push { cls := .type "dict", data := .dict #[] }).get? b = some o ∧ b ≠ I ∧ b ≠ H2.objs.size ∧ b ≠ (s₁.heap.push oI).objs.size := fun b o e => by
    have hlt := Heap.lt_size e
    refine ⟨up₂ b o (Heap.get?_push_of_some _ e), ?_, ?_, ?_⟩
    · rw [hI]; exact Nat.ne_of_lt hlt
    · rw [hC]; exact Nat.ne_of_lt (Nat.lt_succ_of_lt (Nat.lt_succ_of_lt hlt))
    · rw [hD]; exact Nat.ne_of_lt (Nat.lt_succ_of_lt hlt)
  have hIC : I ≠ H2.objs.size := by rw [hI, hC]; exact Nat.ne_of_lt (Nat.lt_succ_of_lt (Nat.lt_succ_self _))
  have hID : I ≠ (s₁.heap.push oI).objs.size := by rw [hI, hD]; exact Nat.ne_of_lt (Nat.lt_succ_self _)
  have hns₁ : (H2.push { cls := .type "dict", data := .dict #[] }).Ns H2.objs.size (fun _ => none) := Heap.Ns.new H2 _
  generalize hDd : (s₁.heap.push oI).objs.size = D at *
  generalize hCc : H2.objs.size = C at *
  have hsz : vs.toArray.size = sp.length := by rw [List.size_toArray, hvs]
  rw [hsz] at W
  have hfpC : ∀ b ∈ [I, l], b ≠ C ∧ b ≠ D := fun b hb => by
    rcases List.mem_cons.mp hb with rfl | hb
    · exact ⟨hIC, hID⟩
    · rw [List.mem_singleton.mp hb]
      exact ⟨(old _ _ hol).2.2.1, (old _ _ hol).2.2.2⟩
  have loop : codeAny (model prog w) A (.compLoop (.ListComp (.Name b pe) [⟨.Tuple [.Name a pa, .Name b pb] kk tp, iterO, [], 0⟩] scope pos) 0 (.ref I) (.ref D) (compEnvC scope [] C env)) (compPost (model prog w) A E none Q (.ref D) C) { s₁ with heap := H2.push { cls := .type "dict", data := .dict #[] } } := by
    refine kcp_loop (fun k s' => ∃ h tk i ys, s' = { s₁ with heap := h, toks := tk } ∧ i ≤ sp.length ∧ k = sp.length + 1 - i ∧ (h.IsListIter I l i ∧ h.IsList l vs.toArray) ∧ h.PlainList D (ys : List Value).toArray ∧ IntsAre ys ((sp.map (·.2)).take i) ∧ (∃ m, h.Ns C m) ∧
      ∀ b o, s₁.heap.get? b = some o → h.get? b = some o) ?_ (sp.length + 1) ⟨_, _, 0, [], rfl, Nat.zero_le _, rfl, hst₁, hD₁, .nil, ⟨_, hns₁⟩, fun b o e => (old b o e).1⟩
    rintro k s' ⟨h, tk, i, ys, rfl, hi, rfl, hst', hys, hyi, ⟨m, hm⟩, hk⟩
    by_cases hlt : i < sp.length
    · refine W.item i _ _ _ hlt hst' fun v h₁ tk₁ hPv hst₂ hk₁ => ?_
      have up₁ : ∀ b o, b ≠ I → h.get? b = some o → h₁.get? b = some o := fun b o hb e => hk₁ b o (fun hx => hb (List.mem_singleton.mp hx)) e
      have hp : sp[i]? = some sp[i] := by simp
      obtain ⟨T, t1, t2, e1, e2⟩ := hrs i _ hp
      rw [List.getElem?_toArray, e1] at hPv
      injection hPv with hPv
      subst hPv
      have hT : h₁.IsTuple T #[Value.int sp[i].1 t1, Value.int sp[i].2 t2] := by
        obtain ⟨o, ho, hc, n, hd⟩ := e2
        exact ⟨o, up₁ _ o (old _ o ho).2.1 (hk _ o ho), hc, n, hd⟩
      refine wpAny_letOwnedTupleGo_listiter hst₂.1 ?_
      refine kcp_assign (env := compEnvC scope [] C env) hh hT (lookup_relabel_local hxa) (lookup_relabel_local hxb) (by simp [compEnvC, relabel, hkind]) (hm.at' fun o e => up₁ _ o (Ne.symm hIC) e) fun h₂ tk₂ hn₂ hs₂ => ?_
      have up : ∀ b o, b ≠ I → b ≠ C → h.get? b = some o → h₂.get? b = some o := fun b o h1 h2 e => hs₂ b o h2 (up₁ b o h1 e)
      obtain ⟨F, N⟩ := cut_frame hn₂
      refine ck_own F (if_pos rfl) ?_ (by simp [compEnvC, relabel, hkind]) (lookup_relabel_local hxb) hbd
      refine wpAny_list_append_plain (hsz := by have := IntsAre.length hyi; rw [List.length_take, List.length_map] at this; rw [List.size_toArray]; unfold sizeLine; omega) (hys.at fun o e => up _ o (Ne.symm hID) hDC e) fun h₃ hl₃ hs₃ => ?_
      refine ⟨sp.length + 1 - (i + 1), by omega, h₃, _, i + 1, ys ++ [Value.int sp[i].2 t2], rfl, by omega, rfl, ?_, ?_, ?_, ⟨_, hn₂.at' fun o e => hs₃.extBut _ o (Ne.symm hDC) e⟩, fun b o e => hs₃.extBut _ o (old b o e).2.2.2 (up b o (old b o e).2.1 (old b o e).2.2.1 (hk b o e))⟩
      · exact W.frame _ _ _ hst₂ fun b hb o e => hs₃.extBut b o (hfpC b hb).2 (hs₂ b o (hfpC b hb).1 e)
      · have e : (ys ++ [Value.int sp[i].2 t2]).toArray = ys.toArray.push (Value.int sp[i].2 t2) := by simp
        rw [e]; exact hl₃
      · have e : (sp.map (·.2)).take (i + 1) = (sp.map (·.2)).take i ++ [sp[i].2] := by
          rw [List.take_add_one, List.getElem?_map, hp]; rfl
        rw [e]; exact intsAre_append hyi (.cons _ _ .nil)
    · have hi' : i = sp.length := by omega
      subst hi'
      refine W.done _ _ _ hst' fun h₁ tk₁ hk₁ => ?_
      have up₁ : ∀ b o, b ≠ I → h.get? b = some o → h₁.get? b = some o := fun b o hb e => hk₁ b o (fun hx => hb (List.mem_singleton.mp hx)) e
      refine ⟨m, hm.at' fun o e => up₁ _ o (Ne.symm hIC) e, fun h'' hs'' => ?_⟩
      rw [List.take_of_length_le (by simp)] at hyi
      refine hQ D h'' _ ys ((hys.at fun o e => up₁ _ o (Ne.symm hID) e).at fun o e => hs''.extBut _ _ hDC e) hyi ?_ fun b o e => hs''.extBut _ _ (old b o e).2.2.1 (up₁ _ _ (old b o e).2.1 (hk b o e))
      exact Heap.get?_none_of_le (by rw [hD]; exact Nat.le_succ _)
  exact codeAny_compStart_list loop (W.self 0 _ _ _ hst₁ loop)
end
end Mine
end
section
open PySem PySem.W PyProof.Rows PySem.Calls
namespace Mine
local macro_rules | `(tactic| walk_at "to comp") => `(tactic| repeat ((fail_if_success (with_reducible show wpAny _ _ (eval (PySem.Expr.ListComp _ _ _ _) _) _ _ _)); first | (k_unfold; try dsimp only) | walk1 | (dsimp only; walk1)))
local macro_rules | `(tactic| walk_at "to len") => `(tactic| repeat ((fail_if_success (show wpAny _ _ (call (Value.builtin "len") _) _ _ _)); first | (k_unfold; try dsimp only) | walk1 | (dsimp only; walk1)))
local macro_rules | `(tactic| walk_at "to tailL") => `(tactic| repeat ((fail_if_success (with_reducible show wpAny _ _ (subscriptTail (PySem.Expr.List _ _) _ (Value.ref _) (Value.ref _)) _ _ _)); first | (k_unfold; try dsimp only) | walk1 | (dsimp only; walk1)))
local macro_rules | `(tactic| walk_at "to tail") => `(tactic| repeat ((fail_if_success (show wpAny _ _ (subscriptTail _ _ (Value.ref _) _) _ _ _)); first | (k_unfold; try dsimp only) | walk1 | (dsimp only; walk1)))
local macro_rules | `(tactic| walk_at "to name") => `(tactic| repeat ((fail_if_success (with_reducible show wpAny _ _ (eval (PySem.Expr.Name _ _) _) _ _ _)); first | (k_unfold; try dsimp only) | walk1 | (dsimp only; walk1)))
local macro_rules | `(tactic| walk_at "to call") => `(tactic| repeat ((fail_if_success (show wpAny _ _ (call (Value.ref _) _) _ _ _)); first | (k_unfold; try dsimp only) | walk1 | (dsimp only; walk1)))
local macro_rules | `(tactic| walk_at "to cmp") => `(tactic| repeat ((fail_if_success (show wpAny _ _ (compareOp _ (Value.ref _) (Value.ref _)) _ _ _)); first | (k_unfold; try dsimp only) | walk1 | (dsimp only; walk1)))
local macro_rules | `(tactic| walk_at "to max") => `(tactic| repeat ((fail_if_success (show wpAny _ _ (call (Value.builtin "max") _) _ _ _)); first | (k_unfold; try dsimp only) | walk1 | (dsimp only; walk1)))
local macro_rules | `(tactic| walk_at "to and") => `(tactic| repeat ((fail_if_success (with_reducible show _ ∧ _)); first | (k_unfold; try dsimp only) | walk1 | (dsimp only; walk1)))
local macro_rules | `(tactic| walk_at "to ask") => `(tactic| repeat ((fail_if_success (with_reducible show @Exists _ _)); first | (k_unfold; try dsimp only) | walk1 | (dsimp only; walk1)))
set_option maxRecDepth 100000 in
set_option maxHeartbeats 8000000 in
theorem holds_of_text (TL : TextLaw) : PySem.Challenge.rw_pu0027_01.Holds := hd (by
  k_go0
  rename_i w11 s0 s1 mg mb G Y fa o pm doc ho hg KX X V GL T B TE TW w10 w9 M w8 w7 hcd w6 hs hlay0 hL1 hr1 hl2 w5 w4 w3 w2 w1 hL ra w1' r0 hI hr hcond1 hcond K0 hD h1 tk1 F w0 dC N X0
  refine wpAny_mono (Q := fun f s' => f = .ret (.bool true) ∧ ∃ h' tk' m, Fr s1.heap s1.heap.objs.size h' m ∧ s' = { s1 with heap := h', toks := tk' }) (E := fun _ _ => False) ?walk ?fin (fun _ _ x => x.elim)
  case fin =>
    rintro _ _ ⟨rfl, h', tk', m, F', rfl⟩
    exact goodW_bool F' hg (fun _ => by with_unfolding_all rfl) (by with_unfolding_all rfl)
  obtain ⟨mg', mb', TR⟩ : ∃ mg mb, TopRead hd.view_39 LO mg mb _ := ⟨_, _, topRead_of T⟩
  clear X0 K0 hD hr r0 w1' ra hl2 hr1 hL1 hlay0 hs TW TE B V X Y hcd
  dsimp only
  replace F : Fr s1.heap s1.heap.objs.size h1 (fun y => if y = Str.ofString "script" then some (.ref w3) else none) := F
  walk_at "to comp"
  refine comp_borders (mg := mg') (mb := mb') rfl rfl rfl (by with_unfolding_all rfl) ?_
  walk_at "to ask"
  rename IsRange _ _ _ _ _ _ _ _ => R
  rename Fr _ _ _ _ => F1
  rename News _ _ _ _ => N1
  refine ⟨_, _, _, _, rfl, R, Frag.In.keeps KX F1.keep, TopRead.keeps TR F1.keep, fun D h' tk hP hD hx => ?_⟩
  have F2 := Fr.keeps F1 hx
  have N2 := News.grown N1 hx
  dsimp only
  rename _ = Data.cell _ => dC
  refine storeC F2 N2 rfl dC fun h₃ oC F3 N3 dC3 hk3 hc3 => ?_
  have hP3 := hP.keepC hc3 hk3
  dsimp only
  clear hP hx hD F2 N2 F1 N1 R hk3 hc3
  generalize w6.sum + 532 = vv at *
  repeat ((fail_if_success (with_reducible show wpAny _ _ (exec (Stmt.Assign _ _ _) _) _ _ _)); first | (k_unfold; try dsimp only) | walk1 | (dsimp only; walk1))
  refine assign_useL rfl (by with_unfolding_all rfl) (by with_unfolding_all rfl) rfl (by decide) (by decide) rfl rfl rfl ?_
  have N4 := news_with N3
  have W3 := And.intro trivial F3
  clear N3
  walk_at "to tailL"
  refine kba_turn (value' := PySem.Expr.Name (PySem.Str.ofString "_") ⟨0, 0, 0, 0⟩) (fun _ => rfl) ?_
  rename Fr _ _ _ _ => F5
  rename News _ _ _ _ => N5
  refine kmk_slice_ints (s := ⟨_, _, _, _, _⟩) (ns := [1, 7, 5, 18]) F5 N5 (News.isList N5 (.head _)) (IsPart.int _ _) IsPart.none (.cons 1 _ (.cons 7 _ (.cons 5 _ (.cons 18 _ .nil)))) (kmk_from (.cons 1 _ (.cons 7 _ (.cons 5 _ (.cons 18 _ .nil)))) (Int.natCast_nonneg _)) rfl ?_ (by with_unfolding_all rfl) (fun _ => by with_unfolding_all rfl) (Nat.le_of_ble_eq_true rfl)
  clear F5 N5
  intro D6 ws6 h6 F6 N6 l6 hI6 _ _
  dsimp only at hI6 ⊢
  clear l6
  walk_at "to ask"
  clear hI6
  rename IntsAre _ _ => hI7
  rename Fr _ _ _ _ => F7
  rename News _ _ _ _ => N7
  have hms1 : 1 ≤ (List.take 6 w6 ++ List.drop (↑w6.length : Int).toNat [1, 7, 5, 18]).length := by simp; omega
  have hms : (List.take 6 w6 ++ List.drop (↑w6.length : Int).toNat [1, 7, 5, 18]).length ≤ 10 := by simp; omega
  generalize List.take 6 w6 ++ List.drop (↑w6.length : Int).toNat [1, 7, 5, 18] = ms at *
  have hl7 := News.isList N7 (.head _)
  have hc7 : Heap.IsCell _ (s1.heap.objs.size + 1) (some (.ref D)) := ⟨_, N7.get (.tail _ (.tail _ (.tail _ (.tail _ (.head _))))), dC3⟩
  have hk7 := keepL W3.2 F7 N7 fun p hp => .tail _ (.tail _ (.tail _ (.tail _ (.tail _ hp))))
  have hP7 := hP3.keepL W3.2.ns hk7
  have X7 := Frag.In.keeps KX F7.keep
  have T7 := TopRead.keeps TR F7.keep
  have hl7len := IntsAre.length hI7
  obtain ⟨vb, hlb, hvb, hrb⟩ := hP7.ex
  have hb21 : (bord 6).length = 21 := by decide
  refine ⟨_, _, fun i y => vb[(ms.getD i 0 % 21).toNat]? = some y, _, Src.list hl7, by rw [List.size_toArray, hl7len]; omega, F7.ns, ?elt, ?done⟩
  case elt =>
    intro g C rest m₂ i v h tk E' hi hv hg F8 hm N8
    rw [List.size_toArray, hl7len] at hi
    obtain ⟨t, ht⟩ := intsAre_at hI7 i hi
    rw [List.getElem?_toArray, ht] at hv
    injection hv with hv
    subst hv
    have hc8 := hc7.keeps hg
    have hlb8 := hlb.at fun o e => F8.keep _ o (hg _ o e)
    have X8 := Frag.In.keeps X7 hg
    have T8 := TopRead.keeps T7 hg
    clear hl7 hc7 hk7 hP7 X7 T7 hlb N7 F7 W3 hI7 hP3
    walk_at "to name"
    refine ck_cell F8 rfl hc8 ?_
    walk_at "to name"
    refine ck_own F8 hm ?_
    have h0 := Int.emod_nonneg (ms.getD i 0) (show (21 : Int) ≠ 0 by decide)
    have h1 := Int.emod_lt_of_pos (ms.getD i 0) (show (21 : Int) > 0 by decide)
    have hlt : (ms.getD i 0 % 21).toNat < vb.length := by omega
    walk_at "to tail"
    rename Fr _ _ _ _ => F9
    rename News _ _ _ _ => N9
    refine item_at (j := (ms.getD i 0 % 21).toNat) (v := vb[(ms.getD i 0 % 21).toNat]) (hlb8.at fun o e => e) (by rw [Int.fmod_eq_emod_of_nonneg _ (by decide)]; omega) (by omega) (by rw [List.getElem?_toArray]; exact List.getElem?_eq_getElem hlt) ?_
    exact ⟨_, _, _, _, [], rfl, F9, N9, fun p hp => hp, (fun p hp => nomatch hp), rfl, List.getElem?_eq_getElem hlt⟩
  case done =>
    intro D8 h8 tk8 rs hD8 hl8 hlen8 hG8 hns8 hk8
    rw [List.size_toArray, hl7len] at hlen8
    have hPS := pairs_picked F7.ns hk8 hrb hl8.isList hlen8 hG8
    have hmsl : (picked ms).length = ms.length := picked_length ms
    have hok := picked_ok ms
    generalize picked ms = sp at *
    have F9 := fr_keepL F7 hns8 hk8
    have N9 := news_others s1.heap h8 s1.heap.objs.size
    have W9 := And.intro trivial F9
    dsimp only at F9 N9 hPS ⊢
    clear hl7 hc7 hk7 hP7 X7 T7 hlb N7 F7 W3 hI7 hP3 hrb hG8 hl8 hns8 hk8 hD8
    clear dC dC3 hlen8 hl7len hvb hcond hcond1 hI hL M ho GL T G hb21
    obtain ⟨tl1, tl2, tl3⟩ := TL vv sp 6 (by omega) (by omega) hok
    walk_at "to call"
    rename Fr _ _ _ _ => Fa
    rename News _ _ _ _ => Na
    have ka := keepL W9.2 Fa Na fun p hp => hp
    have hPa := hPS.keepL W9.2.ns ka
    refine ans_spec (sp := sp) (z := 6) (f := fO sp) (Frag.In.keeps KX Fa.keep) (TopRead.keeps TR Fa.keep) (by decide) hPa (by omega) (fun p hp => by have := hok p hp; omega) (by omega) tl1 tl2 tl3 fun Da ha tka hSa hDa hxa => ?_
    have Fb := Fr.keeps Fa hxa
    have hPb := hPa.ext hxa
    clear Fa Na ka hPa hDa W9 hPS tl1 tl2 tl3
    have Nb := news_others s1.heap ha s1.heap.objs.size
    have Wb := And.intro trivial Fb
    dsimp only
    walk_at "to call"
    rename Fr _ _ _ _ => Fc
    rename News _ _ _ _ => Nc
    have kc := keepL Wb.2 Fc Nc fun p hp => hp
    have hPc := hPb.keepL Wb.2.ns kc
    have hSc := hSa.keepL Wb.2.ns kc
    refine sq_spec (Frag.In.keeps KX Fc.keep) (TopRead.keeps TR Fc.keep) (by decide) hSc (by omega) fun Dd hd tkd hTd hDd hxd => ?_
    have Fd := Fr.keeps Fc hxd
    have hPd := hPc.ext hxd
    have hSd := hSc.ext hxd
    clear Fc Nc kc hPc hSc hDd Wb hPb hSa
    have Nd := news_others s1.heap hd s1.heap.objs.size
    have Wd := And.intro trivial Fd
    dsimp only
    walk_at "to call"
    rename Fr _ _ _ _ => Fe
    rename News _ _ _ _ => Ne
    have ke := keepL Wd.2 Fe Ne fun p hp => hp
    have hPe := hPd.keepL Wd.2.ns ke
    have hSe := hSd.keepL Wd.2.ns ke
    have hTe := hTd.keepL Wd.2.ns ke
    refine same_spec (n := sp.length) (f := fO sp) (sp := sp) (Frag.In.keeps KX Fe.keep) (TopRead.keeps TR Fe.keep) (by decide) hSe hPe rfl (by omega) fO_all fun hf tkf hxf => ?_
    have Ff := Fr.keeps Fe hxf
    have hPf := hPe.ext hxf
    have hTf := hTe.ext hxf
    clear Fe Ne ke hPe hTe hSe hxf Wd hPd hTd hSd
    have Nf := news_others s1.heap hf s1.heap.objs.size
    have Wf := And.intro trivial Ff
    dsimp only
    walk_at "to call"
    rename Fr _ _ _ _ => Fg
    rename News _ _ _ _ => Ng
    have kg := keepL Wf.2 Fg Ng fun p hp => hp
    have hPg := hPf.keepL Wf.2.ns kg
    have hTg := hTf.keepL Wf.2.ns kg
    obtain ⟨hbe, h0, h6⟩ := sp_facts hok
    refine wk_spec (sp := sp) (n := sp.length) (Frag.In.keeps KX Fg.keep) (TopRead.keeps TR Fg.keep) (by decide) hPg rfl (by omega) (by omega) fun Dh hh tkh hWh hDh hxh => ?_
    have Fh := Fr.keeps Fg hxh
    have hPh := hPg.ext hxh
    have hTh := hTg.ext hxh
    rw [← told_walked hbe h0 h6] at hWh
    clear Fg Ng kg hPg hTg hDh hxh Wf hPf hTf
    have Nh := news_others s1.heap hh s1.heap.objs.size
    have Wh := And.intro trivial Fh
    dsimp only
    walk_at "to cmp"
    rename Fr _ _ _ _ => Fi
    rename News _ _ _ _ => Ni
    have ki := keepL Wh.2 Fi Ni fun p hp => hp
    have hPi := hPh.keepL Wh.2.ns ki
    refine ne_pairs (hTh.keepL Wh.2.ns ki) (hWh.keepL Wh.2.ns ki) (Nat.le_of_ble_eq_true rfl) ?_
    have hTi := hTh.keepL Wh.2.ns ki
    clear ki Wh hPh hTh hWh
    have Wi := And.intro trivial Fi
    walk_at "to comp"
    refine comp_second rfl (by with_unfolding_all rfl) rfl (by decide) (by decide) rfl rfl (by decide) ?_
    walk_at "to ask"
    rename Fr _ _ _ _ => Fj
    rename News _ _ _ _ => Nj
    have kj := keepL Wi.2 Fj Nj fun p hp => hp
    have hPj := hPi.keepL Wi.2.ns kj
    have hTj := hTi.keepL Wi.2.ns kj
    have htl := told_length sp.length (fO sp)
    have htok := told_ok hok
    refine ⟨_, _, rfl, hTj, by omega, fun Dk hk tkk vk hlk hik hDk hxk => ?_⟩
    have Fk := Fr.keeps Fj hxk
    have hPk := hPj.ext hxk
    have hTk := hTj.ext hxk
    clear Fj Nj kj hPj hTj hDk hxk Wi hPi hTi
    have Nk := news_others s1.heap hk s1.heap.objs.size
    have Wk := And.intro trivial Fk
    walk_at "to max"
    rename Fr _ _ _ _ => Fl
    rename News _ _ _ _ => Nl
    refine kso_max Fl Nl hlk.isList hik (by rw [List.length_map]; omega) rfl fun hm M tM tkm Fm Nm hM hle => ?_
    have km := keepL Wk.2 Fm Nm fun p hp => hp
    have hPm := hPk.keepL Wk.2.ns km
    have hTm := hTk.keepL Wk.2.ns km
    clear hlk hik km Wk hPk hTk
    obtain ⟨pM, hpM, rfl⟩ := List.mem_map.mp hM
    have hpMok := htok pM hpM
    obtain ⟨z, hz⟩ : ∃ z : Nat, pM.2 = (z : Int) := ⟨pM.2.toNat, by omega⟩
    rw [hz] at hle hpMok ⊢
    have hspz : ∀ p ∈ told sp.length (fO sp), 0 ≤ p.1 ∧ p.1 < p.2 ∧ p.2 ≤ (z : Int) := fun p hp => ⟨(htok p hp).1, (htok p hp).2.1, hle _ (List.mem_map.mpr ⟨p, hp, rfl⟩)⟩
    have htall := told_all hok
    obtain ⟨tl1, tl2, tl3⟩ := TL (vv + 1) (told sp.length (fO sp)) z (by omega) (by omega) hspz
    clear hM hle hz
    generalize told sp.length (fO sp) = ts at *
    clear Nm
    have Nm := news_others s1.heap hm s1.heap.objs.size
    have Wm := And.intro trivial Fm
    dsimp only
    walk_at "to call"
    rename Fr _ _ _ _ => Fn
    rename News _ _ _ _ => Nn
    have kn := keepL Wm.2 Fn Nn fun p hp => hp
    have hPn := hPm.keepL Wm.2.ns kn
    have hTn := hTm.keepL Wm.2.ns kn
    refine ans_spec (sp := ts) (z := z) (f := fO ts) (Frag.In.keeps KX Fn.keep) (TopRead.keeps TR Fn.keep) (by decide) hTn (by omega) (fun p hp => by have := htok p hp; omega) (by omega) tl1 tl2 tl3 fun Do ho tko hSo hDo hxo => ?_
    have Fo := Fr.keeps Fn hxo
    have hPo := hPn.ext hxo
    clear Fn Nn kn hPn hTn hDo hxo Wm hPm hTm tl1 tl2 tl3
    have No := news_others s1.heap ho s1.heap.objs.size
    have Wo := And.intro trivial Fo
    dsimp only
    walk_at "to call"
    rename Fr _ _ _ _ => Fp
    rename News _ _ _ _ => Np
    have kp := keepL Wo.2 Fp Np fun p hp => hp
    have hPp := hPo.keepL Wo.2.ns kp
    have hSp := hSo.keepL Wo.2.ns kp
    refine same_spec (n := sp.length) (f := fO ts) (sp := sp) (Frag.In.keeps KX Fp.keep) (TopRead.keeps TR Fp.keep) (by decide) (htl ▸ hSp) hPp rfl (by omega) htall fun hq tkq hxq => ?_
    have Fq := Fr.keeps Fp hxq
    clear Fp Np kp hPp hSp hxq Wo hPo hSo
    have Nq := news_others s1.heap hq s1.heap.objs.size
    dsimp only
    walk_at "to and"

    rename Fr _ _ _ _ => Fr9
    exact ⟨rfl, _, _, _, Fr9, rfl⟩)
end Mine
end
section
open PySem PySem.W PyProof.Rows PySem.Calls
namespace Mine
set_option maxRecDepth 100000
/-- the dots of a row once it is sent -/
def qd (v : Int) (k : Nat) : Nat := if dots v k = 0 then 0 else dots v k + 1
def rowQ (v : Int) (k : Nat) : List Nat := List.replicate (qd v k) 46 ++ [97 + k, 13, 10]
abbrev rowsQ (v : Int) (ks : List Nat) : List Nat := ks.flatMap (rowQ v)
theorem rowsQ_cons (v : Int) (k : Nat) (ks : List Nat) : rowsQ v (k :: ks) = rowQ v k ++ rowsQ v ks := List.flatMap_cons ..
theorem dots_lt (v : Int) (k : Nat) : dots v k < 3 := by
  unfold dots
  have := Int.emod_nonneg (v / 3 ^ k) (show (3 : Int) ≠ 0 by decide)
  have := Int.emod_lt_of_pos (v / 3 ^ k) (show (3 : Int) > 0 by decide)
  omega
theorem qd_three (v : Int) (k : Nat) : qd v k = 0 ∨ qd v k = 2 ∨ qd v k = 3 := by
  have := dots_lt v k
  unfold qd
  split <;> omega
theorem sub2_cr (r : List Nat) (h : r.head? ≠ some 10) : sub2 (13 :: r) = 13 :: 10 :: sub2 r := by
  cases r with
  | nil => rfl
  | cons c r =>
    have hc : c ≠ 10 := fun e => h (by rw [e]; rfl)
    rw [sub2]
    intro r' e
    injection e with e1 e2
    exact hc e1
theorem sub2_eol (e : Int) (r : List Nat) (h : r.head? ≠ some 10) : sub2 (eolOf e ++ r) = [13, 10] ++ sub2 r := by
  unfold eolOf
  split
  · rfl
  · split
    · show sub2 (13 :: r) = _
      rw [sub2_cr r h]; rfl
    · rfl
theorem sub2_row (v tn : Int) (k : Nat) (r : List Nat) (h : r.head? ≠ some 10) : sub2 (rowRaw v tn k ++ r) = (List.replicate (dots v k) 46 ++ [97 + k] ++ [13, 10]) ++ sub2 r := by
  unfold rowRaw
  rw [List.append_assoc, sub2_append _ _ fun c hc => ?_]
  · rw [sub2_eol _ r h]; simp only [List.append_assoc]
  · rcases List.mem_append.mp hc with hc | hc
    · rw [List.eq_of_mem_replicate hc]; decide
    · rw [List.mem_singleton.mp hc]; omega
theorem rows_head (v tn : Int) : ∀ ks : List Nat, (ks.flatMap (rowRaw v tn)).head? ≠ some 10
  | [] => by simp
  | k :: ks => by
    rw [List.flatMap_cons]
    unfold rowRaw
    cases hd : dots v k with
    | zero => simp; omega
    | succ n => simp [List.replicate_succ]
theorem sub2_rows (v tn : Int) : ∀ ks : List Nat, sub2 (ks.flatMap (rowRaw v tn)) = ks.flatMap fun k => List.replicate (dots v k) 46 ++ [97 + k] ++ [13, 10]
  | [] => rfl
  | k :: ks => by rw [List.flatMap_cons, sub2_row v tn k _ (rows_head v tn ks), sub2_rows v tn ks, List.flatMap_cons]
theorem sub1_row (v : Int) (k : Nat) (r : List Nat) : sub1 true ((List.replicate (dots v k) 46 ++ [97 + k] ++ [13, 10]) ++ r) = rowQ v k ++ sub1 true r := by
  have hk : ¬ 97 + k = 46 := by omega
  have h10 : ((97 + k == 10) : Bool) = false := by simp; omega
  have := dots_lt v k
  have hd : dots v k = 0 ∨ dots v k = 1 ∨ dots v k = 2 := by omega
  unfold rowQ qd
  rcases hd with hd | hd | hd <;> rw [hd] <;> simp [sub1, List.replicate_succ, hk, h10]
theorem sub1_rows (v : Int) : ∀ ks : List Nat, sub1 true (ks.flatMap fun k => List.replicate (dots v k) 46 ++ [97 + k] ++ [13, 10]) = rowsQ v ks
  | [] => rfl
  | k :: ks => by rw [List.flatMap_cons, sub1_row, sub1_rows v ks, rowsQ_cons]
theorem mailQ_eq (v tn : Int) (b n : Nat) : mailQ v tn b n = ⟨(rowsQ v (List.range' b n)).toArray⟩ := by
  unfold mailQ mailRaw
  have : (List.range n).flatMap (fun i => rowRaw v tn (b + i)) = (List.range' b n).flatMap (rowRaw v tn) := by
    rw [List.range'_eq_map_range, List.flatMap_map]
  rw [this, sub2_rows, sub1_rows]
theorem rowQ_length (v : Int) (k : Nat) : (rowQ v k).length ≤ 6 := by
  have := qd_three v k
  unfold rowQ
  simp; omega
theorem rowsQ_length (v : Int) : ∀ ks : List Nat, (rowsQ v ks).length ≤ 6 * ks.length
  | [] => by simp
  | k :: ks => by
    have := rowQ_length v k
    have := rowsQ_length v ks
    rw [rowsQ_cons, List.length_append, List.length_cons]
    omega
end Mine
end
section
open PySem PySem.W PyProof.Rows PySem.Calls
namespace Mine
set_option maxRecDepth 100000
open PySem.StrLaws Builtin.Str
/-- a text cut at its threes of dots, from the left -/
def cutL : Nat → List Nat → List Nat → List (List Nat)
  | _, acc, [] => [acc]
  | 0, acc, c :: r => if (c :: r).take 3 = [46, 46, 46] then acc :: cutL 2 [] r else cutL 0 (acc ++ [c]) r
  | k + 1, acc, _ :: r => cutL k acc r
def goAt (x y : Str) (hi : Nat) : Nat → Nat → Nat → List Nat
  | _, 0, _ => []
  | a, n + 1, free => if (free ≤ a ∧ a + y.length ≤ hi) ∧ subAt x y a = true then a :: goAt x y hi (a + 1) n (a + y.length) else goAt x y hi (a + 1) n free
theorem occ_go (x y : Str) (hi limit : Nat) : ∀ (n a free : Nat) (arr : Array Nat), arr.size + n ≤ limit → (forIn (List.range' a n) (arr, free) (occBody x y hi limit)).run.fst.toList = arr.toList ++ goAt x y hi a n free
  | 0, a, free, arr, _ => by simp [goAt]
  | n + 1, a, free, arr, hl => by
    rw [List.range'_succ, List.forIn_cons]
    unfold occBody
    have hs : arr.size < limit := by omega
    by_cases hc : (free ≤ a ∧ a + y.length ≤ hi) ∧ subAt x y a = true
    · rw [if_pos ⟨⟨⟨hs, hc.1.1⟩, hc.1.2⟩, hc.2⟩]
      refine (occ_go x y hi limit n (a + 1) (a + y.length) (arr.push a) (by rw [Array.size_push]; omega)).trans ?_
      rw [goAt, if_pos hc, Array.toList_push]; simp
    · rw [if_neg (fun h => hc ⟨⟨h.1.1.2, h.1.2⟩, h.2⟩)]
      refine (occ_go x y hi limit n (a + 1) free arr (by omega)).trans ?_
      rw [goAt, if_neg hc]
theorem occ_all (x y : Str) : occurrences x y 0 x.length (x.length + 1) = goAt x y x.length 0 (x.length + 1) 0 := by
  rw [occ_eq, occ_go x y x.length (x.length + 1) _ 0 0 #[] (by simp)]
  simp
abbrev D3 : Str := Str.ofString "..."
theorem D3_list : D3.cps.toList = [46, 46, 46] := by decide +kernel
theorem D3_len : D3.length = 3 := by decide +kernel
theorem strKind_ge (x : Str) : 1 ≤ Builtin.Str.strKind x := by
  unfold Builtin.Str.strKind
  split
  · omega
  · split <;> omega
theorem split_eq (x : Str) : Txt.split x D3 = partsFrom x 3 0 (goAt x D3 x.length 0 (x.length + 1) 0) := by
  unfold Txt.split
  rw [occ_all]
  have hk : Builtin.Str.strKind D3 = 1 := by decide +kernel
  have := strKind_ge x
  by_cases hl : x.length < D3.length
  · rw [if_pos (by simp [hl])]
    have : goAt x D3 x.length 0 (x.length + 1) 0 = [] := by
      have : ∀ n a free, goAt x D3 x.length a n free = [] := by
        intro n
        induction n with
        | zero => intro a free; rfl
        | succ n ih => intro a free; rw [goAt, if_neg (by omega), ih]
      exact this _ _ _
    rw [this]
    show [x] = [strSub x 0 x.length]
    rw [sub_whole]
  · rw [if_neg (by simp [hk]; omega)]
    by_cases he : (goAt x D3 x.length 0 (x.length + 1) 0).isEmpty = true
    · rw [if_pos he, List.isEmpty_iff.mp he]
      show [x] = [strSub x 0 x.length]
      rw [sub_whole]
    · rw [if_neg he, partsBetween_eq, D3_len]
theorem parts_cut (x : Str) : ∀ (S : List Nat) (p a k : Nat), x.cps.toList.drop p = S → p + k ≤ x.length → (k = 0 → a ≤ p) → (0 < k → a = p + k) → ∀ free, (k = 0 → free ≤ p) → (0 < k → free = p + k) →
    (partsFrom x 3 a (goAt x D3 x.length p (x.length + 1 - p) free)).map (fun q => q.cps.toList) = cutL k ((x.cps.toList.drop a).take (p - a)) S
  | [], p, a, k, hS, hp, h0, h1, free, f0, f1 => by
    have hlen : x.length ≤ p := by
      have := congrArg List.length hS
      rw [List.length_drop, Array.length_toList] at this
      show x.cps.size ≤ p
      simp at this; omega
    have hk : k = 0 := by omega
    subst hk
    have hpe : p = x.length := by omega
    have e : x.length + 1 - p = 1 := by omega
    rw [e, goAt, if_neg (by rw [D3_len]; omega)]
    show [(strSub x a x.length).cps.toList] = [_]
    rw [strSub_toList, hpe]
  | c :: r, p, a, k, hS, hp, h0, h1, free, f0, f1 => by
    have hlt : p < x.length := by
      have := congrArg List.length hS
      rw [List.length_drop, Array.length_toList] at this
      show p < x.cps.size
      simp at this; omega
    have hS' : x.cps.toList.drop (p + 1) = r := by rw [← List.drop_drop, hS]; rfl
    have e : x.length + 1 - p = (x.length + 1 - (p + 1)) + 1 := by omega
    rw [e, goAt]
    have hsub : subAt x D3 p = ((c :: r).take 3 == [46, 46, 46]) := by rw [subAt_eq, D3_len, hS, D3_list]
    have hroom : (c :: r).take 3 = [46, 46, 46] → p + 3 ≤ x.length := fun h => by
      have h1 := congrArg List.length h
      have h2 := congrArg List.length hS
      rw [List.length_drop, Array.length_toList] at h2
      rw [List.length_take] at h1
      show p + 3 ≤ x.cps.size
      simp only [List.length_cons, List.length_nil] at h1 h2
      omega
    cases k with
    | zero =>
      have ha := h0 rfl
      have hf := f0 rfl
      by_cases hm : (c :: r).take 3 = [46, 46, 46]
      · have hr := hroom hm
        rw [if_pos ⟨⟨hf, by rw [D3_len]; exact hr⟩, by rw [hsub, hm]; rfl⟩]
        rw [cutL, if_pos hm, D3_len]
        show (strSub x a p).cps.toList :: (partsFrom x 3 (p + 3) (goAt x D3 x.length (p + 1) (x.length + 1 - (p + 1)) (p + 3))).map _ = _
        rw [parts_cut x r (p + 1) (p + 3) 2 hS' (by omega) (fun h => by omega) (fun _ => by omega) (p + 3) (fun h => by omega) (fun _ => by omega), strSub_toList]
        have : p + 1 - (p + 3) = 0 := by omega
        rw [this]; rfl
      · rw [if_neg (fun h => hm (by have := h.2; rw [hsub] at this; exact eq_of_beq this)), cutL, if_neg hm]
        rw [parts_cut x r (p + 1) a 0 hS' (by omega) (fun _ => by omega) (fun h => absurd h (Nat.lt_irrefl _)) free (fun _ => by omega) (fun h => absurd h (Nat.lt_irrefl _))]
        congr 1
        have e2 : p + 1 - a = (p - a) + 1 := by omega
        rw [e2, List.take_add_one, List.getElem?_drop]
        have e3 : a + (p - a) = p := by omega
        have e4 : x.cps.toList[p]? = some c := by
          have : (x.cps.toList.drop p)[0]? = some c := by rw [hS]; rfl
          rwa [List.getElem?_drop, Nat.add_zero] at this
        rw [e3, e4]; rfl
    | succ k =>
      have ha := h1 (Nat.succ_pos _)
      have hf := f1 (Nat.succ_pos _)
      rw [if_neg (by omega), cutL]
      rw [parts_cut x r (p + 1) a k hS' (by omega) (fun _ => by omega) (fun _ => by omega) free (fun _ => by omega) (fun _ => by omega)]
      have e1 : p + 1 - a = 0 := by omega
      have e2 : p - a = 0 := by omega
      rw [e1, e2]
theorem split_cut (x : Str) : (Txt.split x D3).map (fun q => q.cps.toList) = cutL 0 [] x.cps.toList := by
  rw [split_eq]
  exact parts_cut x _ 0 0 0 rfl (Nat.zero_le _) (fun _ => Nat.le_refl _) (fun h => absurd h (Nat.lt_irrefl _)) 0 (fun _ => Nat.le_refl _) (fun h => absurd h (Nat.lt_irrefl _))
end Mine
end
section
open PySem PySem.W PyProof.Rows PySem.Calls
namespace Mine
set_option maxRecDepth 100000
open PySem.StrLaws Builtin.Str
/-- a row without its dots -/
def bare (k : Nat) : List Nat := [97 + k, 13, 10]
theorem cutL_plain {c : Nat} {acc r : List Nat} (h : c ≠ 46) : cutL 0 acc (c :: r) = cutL 0 (acc ++ [c]) r := by
  rw [cutL, if_neg]
  intro e
  cases r with
  | nil => simp at e
  | cons a r => cases r with
    | nil => simp at e
    | cons b r => simp at e; exact h e.1
theorem cutL_bare (acc r : List Nat) (k : Nat) : cutL 0 acc (bare k ++ r) = cutL 0 (acc ++ bare k) r := by
  show cutL 0 acc ((97 + k) :: 13 :: 10 :: r) = _
  rw [cutL_plain (by omega), cutL_plain (by decide), cutL_plain (by decide)]
  simp [bare]
theorem cutL_dots (acc r : List Nat) : cutL 0 acc ([46, 46, 46] ++ r) = acc :: cutL 0 [] r := by
  show cutL 0 acc (46 :: 46 :: 46 :: r) = _
  rw [cutL, if_pos (by simp)]
  rfl
theorem cutL_two (acc r : List Nat) (k : Nat) : cutL 0 acc ([46, 46] ++ bare k ++ r) = cutL 0 (acc ++ ([46, 46] ++ bare k)) r := by
  show cutL 0 acc (46 :: 46 :: (97 + k) :: 13 :: 10 :: r) = _
  have h : 97 + k ≠ 46 := by omega
  rw [cutL, if_neg (by simp; omega), cutL, if_neg (by simp), cutL_plain h, cutL_plain (by decide), cutL_plain (by decide)]
  simp [bare]
/-- the pieces of rows: those ended, and the one at hand -/
def cr (v : Int) : List Nat → List Nat → List (List Nat) × List Nat
  | acc, [] => ([], acc)
  | acc, k :: ks => if qd v k = 3 then (acc :: (cr v (bare k) ks).1, (cr v (bare k) ks).2) else cr v (acc ++ rowQ v k) ks
theorem cut_rows (v : Int) (r : List Nat) : ∀ (ks acc : List Nat), cutL 0 acc (rowsQ v ks ++ r) = (cr v acc ks).1 ++ cutL 0 (cr v acc ks).2 r
  | [], acc => rfl
  | k :: ks, acc => by
    rw [rowsQ_cons, List.append_assoc, cr]
    have hb : rowQ v k = List.replicate (qd v k) 46 ++ bare k := rfl
    rcases qd_three v k with h | h | h
    · rw [if_neg (by omega), ← cut_rows v r ks, hb, h]
      exact cutL_bare acc _ k
    · rw [if_neg (by omega), ← cut_rows v r ks, hb, h]
      exact cutL_two acc _ k
    · rw [if_pos h, hb, h, List.append_assoc]
      have := cutL_dots acc (bare k ++ (rowsQ v ks ++ r))
      refine this.trans ?_
      rw [cutL_bare, List.nil_append, cut_rows v r ks]; rfl
/-- all pieces of rows -/
def crAll (v : Int) (ks : List Nat) : List (List Nat) := (cr v [] ks).1 ++ [(cr v [] ks).2]
theorem cut_ans (v : Int) (k1 k2 : List Nat) : cutL 0 [] ([46, 46, 46] ++ rowsQ v k1 ++ [46, 46, 46] ++ rowsQ v k2 ++ [46, 46, 46]) = [] :: (crAll v k1 ++ crAll v k2 ++ [[]]) := by
  rw [List.append_assoc, List.append_assoc, List.append_assoc, cutL_dots, cut_rows, cutL_dots, cut_rows]
  have := cutL_dots (cr v [] k2).2 []
  rw [List.append_nil] at this
  rw [this]
  simp [crAll, cutL]
section
/-- finding on lists -/
def ls (l : List Nat) : Str := ⟨l.toArray⟩
theorem at_list {Y W : List Nat} {i : Nat} : StrLaws.At (ls Y) (ls W) (ls Y).length i ↔ i + W.length ≤ Y.length ∧ (Y.drop i).take W.length = W := by
  have e1 : (ls Y).length = Y.length := by simp [ls, Str.length]
  have e2 : (ls W).length = W.length := by simp [ls, Str.length]
  unfold StrLaws.At
  rw [e1, e2, subAt_eq, e2]
  simp [ls]
theorem find_some {Y W : List Nat} {p i : Nat} (hp : p ≤ i) (hi : i + W.length ≤ Y.length) (he : (Y.drop i).take W.length = W) (hn : ∀ j, p ≤ j → j < i → j + W.length ≤ Y.length → (Y.drop j).take W.length ≠ W) : findFrom (ls Y) (ls W) p = some i := by
  unfold findFrom
  rcases occ_head_from (ls Y) (ls W) p 1 (Nat.le_refl _) with ⟨_, h⟩ | ⟨j, r, e, hj, ha, h⟩
  · exact absurd (at_list.mpr ⟨hi, he⟩) (h i hp)
  · rw [e]
    obtain ⟨a1, a2⟩ := at_list.mp ha
    rcases Nat.lt_trichotomy j i with g | g | g
    · exact absurd a2 (hn j hj g a1)
    · rw [g]; rfl
    · exact absurd (at_list.mpr ⟨hi, he⟩) (h i hp g)
theorem find_none {Y W : List Nat} {p : Nat} (hn : ∀ j, p ≤ j → j + W.length ≤ Y.length → (Y.drop j).take W.length ≠ W) : findFrom (ls Y) (ls W) p = none := by
  unfold findFrom
  rcases occ_head_from (ls Y) (ls W) p 1 (Nat.le_refl _) with ⟨e, _⟩ | ⟨j, r, e, hj, ha, h⟩
  · rw [e]; rfl
  · obtain ⟨a1, a2⟩ := at_list.mp ha
    exact absurd a2 (hn j hj a1)
theorem find_nil {Y : List Nat} {p : Nat} (hp : p ≤ Y.length) : findFrom (ls Y) (ls []) p = some p := find_some (Nat.le_refl _) (by simpa using hp) (by simp) fun j h1 h2 => by omega
/-- a sign that stands once -/
structure Once (A : List Nat) (c : Nat) (B : List Nat) : Prop where
  a : c ∉ A
  b : c ∉ B
theorem once_at {A B : List Nat} {c j : Nat} (h : Once A c B) (hj : (A ++ c :: B)[j]? = some c) : j = A.length := by
  rcases Nat.lt_trichotomy j A.length with g | g | g
  · rw [List.getElem?_append_left g] at hj
    exact absurd (List.mem_of_getElem? hj) h.a
  · exact g
  · rw [List.getElem?_append_right (by omega)] at hj
    obtain ⟨d, hd⟩ : ∃ d, j - A.length = d + 1 := ⟨j - A.length - 1, by omega⟩
    rw [hd, List.getElem?_cons_succ] at hj
    exact absurd (List.mem_of_getElem? hj) h.b
/-- a piece that holds a sign that stands once is found where it stands alone -/
theorem only_at {pre w1 w2 post : List Nat} {c j : Nat} (h : Once (pre ++ w1) c (w2 ++ post)) (he : ((pre ++ (w1 ++ c :: w2) ++ post).drop j).take (w1 ++ c :: w2).length = w1 ++ c :: w2) : j = pre.length := by
  have e : (pre ++ (w1 ++ c :: w2) ++ post) = (pre ++ w1) ++ c :: (w2 ++ post) := by simp
  rw [e] at he
  have h1 : ((((pre ++ w1) ++ c :: (w2 ++ post)).drop j).take (w1 ++ c :: w2).length)[w1.length]? = some c := by rw [he]; simp
  rw [List.getElem?_take] at h1
  split at h1
  · rw [List.getElem?_drop] at h1
    have := once_at h h1
    rw [List.length_append] at this
    omega
  · cases h1
/-- the piece w stands behind pre, and holds a sign that stands once -/
structure Lone (Y pre w post : List Nat) : Prop where
  eq : Y = pre ++ w ++ post
  ex : ∃ w1 c w2, w = w1 ++ c :: w2 ∧ Once (pre ++ w1) c (w2 ++ post)
theorem Lone.only {Y pre w post : List Nat} (x : Lone Y pre w post) {j : Nat} (he : (Y.drop j).take w.length = w) : j = pre.length := by
  obtain ⟨w1, c, w2, rfl, h⟩ := x.ex
  rw [x.eq] at he
  exact only_at h he
theorem Lone.find {Y pre w post : List Nat} (x : Lone Y pre w post) {p : Nat} (hp : p ≤ pre.length) : findFrom (ls Y) (ls w) p = some pre.length := by
  refine find_some hp ?_ ?_ fun j _ h2 _ he => absurd (x.only he) (by omega)
  · rw [x.eq]; simp
  · rw [x.eq, List.append_assoc, List.drop_left, List.take_left]
theorem Lone.miss {Y pre w post : List Nat} (x : Lone Y pre w post) {p : Nat} (hp : pre.length < p) : findFrom (ls Y) (ls w) p = none :=
  find_none fun j h1 _ he => by have := x.only he; omega
/-- more behind it, the sign stands still -/
theorem Lone.more {Y pre w r post : List Nat} (x : Lone Y pre w (r ++ post)) : Lone Y pre (w ++ r) post := by
  refine ⟨by rw [x.eq]; simp, ?_⟩
  obtain ⟨w1, c, w2, rfl, h⟩ := x.ex
  exact ⟨w1, c, w2 ++ r, by simp, h.a, by have := h.b; simpa using this⟩
end
/-- each row's letter stands once -/
def Letters (v : Int) (Y : List Nat) : Prop := ∀ (k : Nat) (pre post : List Nat), Y = pre ++ rowQ v k ++ post → Once (pre ++ List.replicate (qd v k) 46) (97 + k) ([13, 10] ++ post)
theorem lone_bare {v : Int} {Y pre post : List Nat} {k : Nat} (L : Letters v Y) (h : Y = pre ++ rowQ v k ++ post) : Lone Y (pre ++ List.replicate (qd v k) 46) (bare k) post := by
  have := L k pre post h
  refine ⟨by rw [h]; simp [rowQ, bare], [], 97 + k, [13, 10], rfl, ?_⟩
  simpa using this
theorem lone_row {v : Int} {Y pre post : List Nat} {k : Nat} (L : Letters v Y) (h : Y = pre ++ rowQ v k ++ post) : Lone Y pre (rowQ v k) post :=
  ⟨h, List.replicate (qd v k) 46, 97 + k, [13, 10], rfl, L k pre post h⟩
theorem seq_some {Y w : List Nat} {p i : Nat} {r : List (List Nat)} (h : findFrom (ls Y) (ls w) p = some i) : seqFind (ls Y) ((w :: r).map ls) p = seqFind (ls Y) (r.map ls) (i + w.length) := by
  rw [List.map_cons, seqFind_some h]
  simp [ls, Str.length]
theorem seq_none {Y w : List Nat} {p : Nat} {r : List (List Nat)} (h : findFrom (ls Y) (ls w) p = none) : seqFind (ls Y) ((w :: r).map ls) p = false := by
  rw [List.map_cons, seqFind_none h]
/-- the pieces of rows are found, one behind the other -/
theorem seq_on {v : Int} {Y : List Nat} (L : Letters v Y) (rest : List (List Nat)) : ∀ (ks pre acc post : List Nat) (p : Nat), Y = pre ++ acc ++ (rowsQ v ks ++ post) → p ≤ pre.length → Lone Y pre acc (rowsQ v ks ++ post) →
    seqFind (ls Y) (((cr v acc ks).1 ++ (cr v acc ks).2 :: rest).map ls) p = seqFind (ls Y) (rest.map ls) (pre ++ acc ++ rowsQ v ks).length
  | [], pre, acc, post, p, hY, hp, hl => by
    show seqFind (ls Y) ((acc :: rest).map ls) p = _
    rw [seq_some (hl.find hp)]
    simp
  | k :: ks, pre, acc, post, p, hY, hp, hl => by
    have hY2 : Y = (pre ++ acc) ++ rowQ v k ++ (rowsQ v ks ++ post) := by rw [hY, rowsQ_cons]; simp
    rw [cr]
    by_cases h3 : qd v k = 3
    · rw [if_pos h3]
      show seqFind (ls Y) ((acc :: ((cr v (bare k) ks).1 ++ (cr v (bare k) ks).2 :: rest)).map ls) p = _
      rw [seq_some (hl.find hp)]
      have hb := lone_bare L hY2
      rw [seq_on L rest ks _ (bare k) post (pre.length + acc.length) hb.eq (by simp) hb]
      rw [rowsQ_cons]
      simp [rowQ, bare]
    · rw [if_neg h3]
      rw [rowsQ_cons, List.append_assoc] at hl
      rw [seq_on L rest ks pre (acc ++ rowQ v k) post p (by rw [hY2]; simp) hp hl.more, rowsQ_cons]
      simp
theorem seq_off {v : Int} {Y : List Nat} (rest : List (List Nat)) : ∀ (ks pre acc post : List Nat) (p : Nat), pre.length < p → Lone Y pre acc (rowsQ v ks ++ post) →
    seqFind (ls Y) (((cr v acc ks).1 ++ (cr v acc ks).2 :: rest).map ls) p = false
  | [], pre, acc, post, p, hp, hl => seq_none (hl.miss hp)
  | k :: ks, pre, acc, post, p, hp, hl => by
    rw [cr]
    by_cases h3 : qd v k = 3
    · rw [if_pos h3]
      exact seq_none (hl.miss hp)
    · rw [if_neg h3]
      rw [rowsQ_cons, List.append_assoc] at hl
      exact seq_off rest ks pre _ post p hp hl.more
/-- from the start of the rows -/
theorem seq_rows_on {v : Int} {Y : List Nat} (L : Letters v Y) (rest : List (List Nat)) (k : Nat) (ks pre post : List Nat) (p : Nat) (hY : Y = pre ++ (rowsQ v (k :: ks) ++ post)) (hp : p ≤ pre.length) :
    seqFind (ls Y) ((crAll v (k :: ks) ++ rest).map ls) p = seqFind (ls Y) (rest.map ls) (pre ++ rowsQ v (k :: ks)).length := by
  have hY2 : Y = pre ++ rowQ v k ++ (rowsQ v ks ++ post) := by rw [hY, rowsQ_cons]; simp
  have hYl : p ≤ Y.length := by rw [hY]; simp; omega
  unfold crAll
  rw [List.append_assoc, cr]
  by_cases h3 : qd v k = 3
  · rw [if_pos h3]
    show seqFind (ls Y) (([] :: ((cr v (bare k) ks).1 ++ (cr v (bare k) ks).2 :: rest)).map ls) p = _
    rw [seq_some (find_nil hYl)]
    have hb := lone_bare L hY2
    rw [seq_on L rest ks _ (bare k) post _ hb.eq (by simp; omega) hb, rowsQ_cons]
    simp [rowQ, bare]
  · rw [if_neg h3]
    show seqFind (ls Y) (((cr v ([] ++ rowQ v k) ks).1 ++ (cr v ([] ++ rowQ v k) ks).2 :: rest).map ls) p = _
    rw [List.nil_append, seq_on L rest ks pre (rowQ v k) post p hY2 hp (lone_row L hY2), rowsQ_cons]
    simp
theorem seq_rows_off {v : Int} {Y : List Nat} (L : Letters v Y) (rest : List (List Nat)) (k : Nat) (ks pre post : List Nat) (p : Nat) (hY : Y = pre ++ (rowsQ v (k :: ks) ++ post)) (hp : (pre ++ rowQ v k).length ≤ p) (hpl : p ≤ Y.length) :
    seqFind (ls Y) ((crAll v (k :: ks) ++ rest).map ls) p = false := by
  have hY2 : Y = pre ++ rowQ v k ++ (rowsQ v ks ++ post) := by rw [hY, rowsQ_cons]; simp
  have hlen : (pre ++ rowQ v k).length = pre.length + qd v k + 3 := by simp [rowQ]; omega
  unfold crAll
  rw [List.append_assoc, cr]
  by_cases h3 : qd v k = 3
  · rw [if_pos h3]
    show seqFind (ls Y) (([] :: ((cr v (bare k) ks).1 ++ (cr v (bare k) ks).2 :: rest)).map ls) p = _
    rw [seq_some (find_nil hpl)]
    have hb := lone_bare L hY2
    exact seq_off rest ks _ (bare k) post _ (by simp; omega) hb
  · rw [if_neg h3]
    show seqFind (ls Y) (((cr v ([] ++ rowQ v k) ks).1 ++ (cr v ([] ++ rowQ v k) ks).2 :: rest).map ls) p = _
    rw [List.nil_append]
    exact seq_off rest ks pre _ post p (by omega) (lone_row L hY2)
end Mine
end
section
open PySem PySem.W PyProof.Rows PySem.Calls
namespace Mine
set_option maxRecDepth 100000
open PySem.StrLaws Builtin.Str
theorem count_row (v : Int) (k j : Nat) : (rowQ v j).count (97 + k) = if j = k then 1 else 0 := by
  unfold rowQ
  rw [List.count_append, List.count_replicate]
  have h1 : ((46 == 97 + k) : Bool) = false := by simp; omega
  have h2 : ((13 == 97 + k) : Bool) = false := by simp; omega
  have h3 : ((10 == 97 + k) : Bool) = false := by simp; omega
  simp only [h1, Bool.false_eq_true, if_false, List.count_cons, h2, h3, List.count_nil, Nat.zero_add, Nat.add_zero]
  by_cases h : j = k
  · subst h; simp
  · have : ((97 + j == 97 + k) : Bool) = false := by simp; omega
    simp [this, h]
theorem count_rows (v : Int) (k : Nat) : ∀ ks : List Nat, (rowsQ v ks).count (97 + k) = ks.count k
  | [] => rfl
  | j :: ks => by
    rw [rowsQ_cons, List.count_append, count_row, count_rows v k ks, List.count_cons]
    by_cases h : j = k
    · subst h; simp; omega
    · have : ((j == k) : Bool) = false := by simpa using h
      simp [this, h]
theorem letters_of {v : Int} {ks : List Nat} (hn : ks.Nodup) : Letters v (rowsQ v ks) := by
  intro k pre post h
  have hc := count_rows v k ks
  have h1 : ks.count k ≤ 1 := List.nodup_iff_count.mp hn k
  rw [h, List.count_append, List.count_append, count_row, if_pos rfl] at hc
  have p0 : pre.count (97 + k) = 0 := by omega
  have q0 : post.count (97 + k) = 0 := by omega
  refine ⟨fun hm => ?_, fun hm => ?_⟩
  · rcases List.mem_append.mp hm with hm | hm
    · exact absurd (List.count_pos_iff.mpr hm) (by omega)
    · have := List.eq_of_mem_replicate hm; omega
  · rcases List.mem_append.mp hm with hm | hm
    · simp at hm; omega
    · exact absurd (List.count_pos_iff.mpr hm) (by omega)
theorem rows_split (v : Int) (b n z : Nat) (h : b + n ≤ z) : rowsQ v (List.range' 0 z) = rowsQ v (List.range' 0 b) ++ (rowsQ v (List.range' b n) ++ rowsQ v (List.range' (b + n) (z - (b + n)))) := by
  have e1 : List.range' 0 z = List.range' 0 b ++ (List.range' b n ++ List.range' (b + n) (z - (b + n))) := by
    have h1 := List.range'_append_1 (s := b) (m := n) (n := z - (b + n))
    have h2 := List.range'_append_1 (s := 0) (m := b) (n := n + (z - (b + n)))
    rw [Nat.zero_add] at h2
    rw [h1, h2]
    congr 1; omega
  rw [e1]
  simp only [rowsQ, List.flatMap_append]
theorem rows_to (v : Int) (b n : Nat) : rowsQ v (List.range' 0 b) ++ rowsQ v (List.range' b n) = rowsQ v (List.range' 0 (b + n)) := by
  have h2 := List.range'_append_1 (s := 0) (m := b) (n := n)
  rw [Nat.zero_add] at h2
  rw [← h2]
  simp only [rowsQ, List.flatMap_append]
theorem rows_len_mono (v : Int) {a b : Nat} (h : a ≤ b) : (rowsQ v (List.range' 0 a)).length ≤ (rowsQ v (List.range' 0 b)).length := by
  have := rows_to v a (b - a)
  rw [show a + (b - a) = b by omega] at this
  rw [← this, List.length_append]; omega
theorem range_step (b n : Nat) (h : 0 < n) : List.range' b n = b :: List.range' (b + 1) (n - 1) := by
  obtain ⟨m, rfl⟩ : ∃ m, n = m + 1 := ⟨n - 1, by omega⟩
  rw [List.range'_succ]; simp
theorem seq_law (v : Int) (z b1 n1 b2 n2 : Nat) (h1 : 0 < n1) (h2 : 0 < n2) (hz1 : b1 + n1 ≤ z) (hz2 : b2 + n2 ≤ z) :
    seqFind (ls (rowsQ v (List.range' 0 z))) (([] :: (crAll v (List.range' b1 n1) ++ crAll v (List.range' b2 n2) ++ [[]])).map ls) 0 = decide (b1 + n1 ≤ b2) := by
  have L : Letters v (rowsQ v (List.range' 0 z)) := letters_of List.nodup_range'
  rw [seq_some (find_nil (Nat.zero_le _)), List.append_assoc, show 0 + ([] : List Nat).length = 0 from rfl]
  have s1 := rows_split v b1 n1 z hz1
  have s2 := rows_split v b2 n2 z hz2
  have t1 := rows_to v b1 n1
  have t2 := rows_to v b2 n2
  have m1 := rows_len_mono v hz1
  have m2 := rows_len_mono v hz2
  rw [range_step b1 n1 h1] at s1 t1 ⊢
  rw [range_step b2 n2 h2] at s2 t2 ⊢
  generalize hY : rowsQ v (List.range' 0 z) = Y at *
  rw [seq_rows_on L _ b1 _ _ _ 0 s1 (Nat.zero_le _), t1]
  by_cases h : b1 + n1 ≤ b2
  · rw [seq_rows_on L _ b2 _ _ _ _ s2 (rows_len_mono v h), t2, seq_some (find_nil m2), decide_eq_true h]
    rfl
  · rw [decide_eq_false h]
    refine seq_rows_off L _ b2 _ _ _ _ s2 ?_ m1
    have := rows_to v b2 1
    have e : rowsQ v (List.range' b2 1) = rowQ v b2 := by simp [rowsQ, List.range'_one]
    rw [e] at this
    rw [this]
    exact rows_len_mono v (by omega)
theorem split_ls {x : Str} {m : List (List Nat)} (h : (Txt.split x D3).map (fun q => q.cps.toList) = m) : Txt.split x D3 = m.map ls := by
  rw [← h, List.map_map]
  have : (ls ∘ fun q : Str => q.cps.toList) = id := by
    funext q
    simp [ls]
  rw [this, List.map_id]
theorem ls_length (l : List Nat) : (ls l).length = l.length := by simp [ls, Str.length]
theorem text_law : TextLaw := by
  intro v sp z hlen hz hok
  have part : ∀ i, i < sp.length → ∃ b n : Nat, 0 < n ∧ b + n ≤ z ∧ bO sp i = b ∧ eO sp i = (b + n : Nat) ∧ partOf v sp i = ls (rowsQ v (List.range' b n)) := by
    intro i hi
    have hp : sp[i]? = some sp[i] := List.getElem?_eq_getElem hi
    obtain ⟨h0, h1, h2⟩ := hok sp[i] (List.getElem_mem hi)
    refine ⟨sp[i].1.toNat, (sp[i].2 - sp[i].1).toNat, by omega, by omega, ?_, ?_, ?_⟩
    · unfold bO; rw [List.getD_eq_getElem?_getD, hp]; show sp[i].1 = _; omega
    · unfold eO; rw [List.getD_eq_getElem?_getD, hp]; show sp[i].2 = _; omega
    · unfold partOf; rw [hp]; exact mailQ_eq ..
  refine ⟨fun i hi => ?_, fun i j hi hj => ?_, ?_⟩
  · obtain ⟨b, n, _, _, _, _, e⟩ := part i hi
    rw [e, ls_length]
    have := rowsQ_length v (List.range' b n)
    rw [List.length_range'] at this
    omega
  · obtain ⟨b1, n1, p1, q1, hb1, he1, e1⟩ := part i hi
    obtain ⟨b2, n2, p2, q2, hb2, he2, e2⟩ := part j hj
    have l1 := rowsQ_length v (List.range' b1 n1)
    have l2 := rowsQ_length v (List.range' b2 n2)
    rw [List.length_range'] at l1 l2
    have hx : (ansTxt v sp i j).cps.toList = [46, 46, 46] ++ rowsQ v (List.range' b1 n1) ++ [46, 46, 46] ++ rowsQ v (List.range' b2 n2) ++ [46, 46, 46] := by
      unfold ansTxt
      rw [e1, e2]
      simp only [Str.cps_append, Array.toList_append, show (Str.ofString "...").cps.toList = [46, 46, 46] from D3_list]
      rfl
    have hlx : (ansTxt v sp i j).length = (rowsQ v (List.range' b1 n1)).length + (rowsQ v (List.range' b2 n2)).length + 9 := by
      show (ansTxt v sp i j).cps.size = _
      rw [← Array.length_toList, hx]; simp only [List.length_append, List.length_cons, List.length_nil]; omega
    have hct := split_cut (ansTxt v sp i j)
    rw [hx, cut_ans] at hct
    have hsp := split_ls hct
    refine ⟨by omega, ⟨(crAll v (List.range' b1 n1) ++ crAll v (List.range' b2 n2)).map ls, ?_⟩, ?_, ?_⟩
    · rw [show Str.ofString "..." = D3 from rfl, hsp, List.map_cons, List.map_append]; rfl
    · refine (found_iff _ _).mpr ⟨0, by rw [show (Str.ofString "...").length = 3 from D3_len]; omega, ?_⟩
      rw [subAt_eq, hx, show (Str.ofString "...").length = 3 from D3_len, show (Str.ofString "...").cps.toList = _ from D3_list]
      rfl
    · rw [show Str.ofString "..." = D3 from rfl, hsp, mailQ_eq]
      have := seq_law v z b1 n1 b2 n2 p1 p2 q1 q2
      rw [show (⟨(rowsQ v (List.range' 0 z)).toArray⟩ : Str) = ls (rowsQ v (List.range' 0 z)) from rfl, this]
      unfold fO
      rw [he1, hb2]
      exact decide_eq_decide.mpr Int.ofNat_le.symm
  · rw [mailQ_eq]
    show (ls _).length ≤ _
    rw [ls_length]
    have := rowsQ_length v (List.range' 0 z)
    rw [List.length_range'] at this
    omega
end Mine
end
open PySem PySem.W PyProof.Rows
theorem PySem.Challenge.cw_pu0027_01_holds : PySem.Challenge.rw_pu0027_01.Holds :=
  Mine.holds_of_text Mine.text_law
