import PyProof.Rows.All
import Wide.All
import OpenK.AllK
import KE.BitLaws
import Wide.FinOn
import PySem.Challenge.RW_sr0016_01
set_option Elab.async false
set_option maxRecDepth 100000
set_option maxHeartbeats 8000000
set_option linter.unusedVariables false
set_option linter.unusedSimpArgs false
set_option linter.unusedSectionVars false
section
open PySem PySem.W PyProof.Rows
namespace Mine
open_top hd for PySem.Challenge.rw_sr0016_01
theorem top_off : True := by
  w_top off
  trivial
end Mine
end
section
open PySem PySem.W PyProof.Rows PySem.Calls PySem.Spec
set_option maxHeartbeats 8000000
namespace Mine

abbrev AA (dp : Nat) (fr : Option (List Env)) (gd : Option (List Code)) (un : Nat) : Around := { handled := none, depth := dp, frames := fr, guards := gd, units := un }

section
variable {prog : Program} {w : World} {A : Around} {s : Shared} {h₀ : Heap} {K : Frag} {R : Result → Shared → Prop} {news : List (Addr × Obj)}
  {name qual : Str} {params : Arguments} {body : List Stmt} {scope : Scope} {dV kV doc pm cdv ct oc : Value} {an od : Option Addr} {osl : Array (Option Value)} {f : Addr} {args : Args} {binds : List (Str × Value)}

/-- what the callee may use of the heap: `h₀` is all of it but the objects of `news`, which it may turn -/
structure Lies (h₀ h : Heap) (news : List (Addr × Obj)) : Prop where
  keep : ∀ b o, h₀.get? b = some o → h.get? b = some o
  size : h₀.objs.size ≤ h.objs.size
  news : ∀ p ∈ news, h.get? p.1 = some p.2 ∧ h₀.get? p.1 = none

theorem Lies.all (h : Heap) : Lies h h [] := ⟨fun _ _ e => e, Nat.le_refl _, fun _ hp => nomatch hp⟩

theorem binds_peek {s : Shared} {fd : FuncData} (X : K.In s.heap) (e : ∀ S, peek K S (bindArgs fd args) = some binds) : BindsTo s fd args binds :=
  fun _ _ _ _ hq => (Looks.of_peek X (e _)).here hq

theorem enter (Y : Lies h₀ s.heap news) (X : K.In h₀) (hlim : h₀.NoLimit) (hroom : A.depth < recursionLimit)
    (ho : K.lookup f = some ⟨oc, od, .func (fnOf name qual params body scope dV kV doc pm an cdv ct), osl⟩) (hcd : codeIn K cdv qual = true)
    (hbind : BindsTo s (fnOf name qual params body scope dV kV doc pm an cdv ct) args binds) (hloc : ∀ y ∈ binds, scope.names.lookup y.1 = some .local)
    (h : ∀ L' h₁, Fr h₀ L' h₁ (fun y => binds.reverse.lookup y) → News h₀ L' h₁ news → (∀ b o, s.heap.get? b = some o → h₁.get? b = some o) → s.heap.objs.size ≤ L' →
      wpAny (model prog w) (A.deeper (envOf qual scope L' f cdv)) (execs body (envOf qual scope L' f cdv))
        (fun fl s' => R (.ok (.ret (match fl with | .ret v => v | _ => .none))) s') (fun _ _ => False)
        { s with heap := h₁, toks := s.toks + binds.length })
    (hcell : ∀ x ∈ scope.names, x.2 ≠ .cell)
    (hco : scope.isCoroutine = false) (hgen : scope.isGenerator = false) (hk : scope.kind = .function) :
    codeAny (model prog w) A (.call (.ref f) args) R s := by
  refine codeAny_call_def (fd := fnOf name qual params body scope dV kV doc pm an cdv ct) (body := body) (binds := binds) hroom ((X.keeps Y.keep) _ _ ho) rfl (hlim.keeps Y.keep) (codeRec_of (X.keeps Y.keep) hcd) rfl hbind hcell hloc (fun h₁ hns hk₁ => ?_) hco hgen hk
  refine wpAny_mono (h s.heap.objs.size h₁ ⟨hns, fun b o e => hk₁ b o (Y.keep b o e), Y.size⟩ (fun p hp => ⟨hk₁ _ _ (Y.news p hp).1, Nat.ne_of_lt (Heap.lt_size (Y.news p hp).1), (Y.news p hp).2⟩) hk₁ (Nat.le_refl _)) (fun _ _ x => x) fun _ _ x => x.elim

theorem enterC (Y : Lies h₀ s.heap news) (X : K.In h₀) (hlim : h₀.NoLimit) (hroom : A.depth < recursionLimit)
    (ho : K.lookup f = some ⟨oc, od, .func (fnOf name qual params body scope dV kV doc pm an cdv ct), osl⟩) (hcd : codeIn K cdv qual = true)
    (hbind : BindsTo s (fnOf name qual params body scope dV kV doc pm an cdv ct) args binds)
    (hkind : (binds.all fun y => scope.names.lookup y.1 == some .local || scope.names.lookup y.1 == some .cell) = true)
    (hnd : ((cellsFrom 0 scope.names []).map (·.1)).Nodup)
    (h : ∀ L' h₁ tk cells, Fr h₀ L' h₁ (bindL (envOfC qual scope L' f cdv).kindOf binds fun _ => none) → News h₀ L' h₁ (cells ++ news) →
      CellsAre (bindC (envOfC qual scope L' f cdv).kindOf binds fun _ => none) (cellsFrom (L' + 1) scope.names []) cells → (∀ b o, s.heap.get? b = some o → h₁.get? b = some o) → s.heap.objs.size ≤ L' →
      wpAny (model prog w) (A.deeper (envOfC qual scope L' f cdv)) (execs body (envOfC qual scope L' f cdv))
        (fun fl s' => R (.ok (.ret (match fl with | .ret v => v | _ => .none))) s') (fun _ _ => False)
        { s with heap := h₁, toks := tk })
    (hco : scope.isCoroutine = false) (hgen : scope.isGenerator = false) (hk : scope.kind = .function) :
    codeAny (model prog w) A (.call (.ref f) args) R s := by
  refine codeAny_call_function hroom ((X.keeps Y.keep) _ _ ho) rfl hco hgen rfl (codeRec_of (X.keeps Y.keep) hcd) (hbind _ _ _ _ ?_)
  refine wpAny_newFunctionEnv_cells hk (kindsX hkind _) fun env' he s' x => ?_
  subst he
  refine ⟨(hlim.keeps Y.keep).keeps x.toInCall.keep, codeAny_func ?_⟩
  obtain ⟨h₁, tk, rfl, _⟩ := x.done
  have hk₁ := x.toInCall.keep
  obtain ⟨cells, NC, YC⟩ := Cl.news (h₀ := s.heap) (Nat.le_refl _) fun n c hm => ⟨x.cell n c (lookup_of_mem_nodup (cellsFrom_names scope.names 0 (s.heap.objs.size + 1) [] [] rfl ▸ hnd) hm), x.above n c hm⟩
  refine wpAny_mono (h s.heap.objs.size h₁ tk cells ⟨x.toInCall.ns, fun b o e => hk₁ b o (Y.keep b o e), Y.size⟩ (fun p hp => ?_) YC hk₁ (Nat.le_refl _)) (fun fl s' hl => hl) fun _ _ y => y.elim
  rcases List.mem_append.mp hp with hp | hp
  · refine ⟨(NC p hp).1, (NC p hp).2.1, ?_⟩
    cases q : h₀.get? p.1 with
    | none => rfl
    | some o => have := Y.keep _ _ q; rw [(NC p hp).2.2] at this; cases this
  · exact ⟨hk₁ _ _ (Y.news p hp).1, Nat.ne_of_lt (Heap.lt_size (Y.news p hp).1), (Y.news p hp).2⟩
end

end Mine
end
section
open PySem
namespace Mine
namespace Rx
abbrev M := Sre.M

theorem runFor_stop {m : M} (h : m.outcome.isSome = true) : ∀ n, Sre.M.runFor n m = m
  | 0 => rfl
  | n + 1 => by simp [Sre.M.runFor, h]

def Rch (n : Nat) (m m' : M) : Prop := ∀ k, Sre.M.runFor (n + k) m = Sre.M.runFor k m'
theorem Rch.refl (m : M) : Rch 0 m m := fun k => by rw [Nat.zero_add]
theorem Rch.trans {a b : Nat} {m m' m'' : M} (x : Rch a m m') (y : Rch b m' m'') : Rch (a + b) m m'' := fun k => by
  rw [Nat.add_assoc, x, y]
theorem Rch.step {m : M} (h : m.outcome = none) : Rch 1 m m.step := fun k => by
  rw [Nat.add_comm]; simp [Sre.M.runFor, h]
theorem Rch.to {m m' : M} (e : m.step = m') (h : m.outcome = none) : Rch 1 m m' := e ▸ Rch.step h

/-- a state of the matcher between two words, no loop open -/
abbrev S (code t : Array Nat) (lim start ls pc pos handed : Nat) (outer : Bool) (marks : Array (Option Nat)) (lm li : Int) (frames : List Sre.Frame) (weight : Nat) (answer : Option Bool) (seen : Sre.Seen) : M :=
  { code := code, text := t, lim, start, lastStart := ls, pc, pos, handed, outermost := outer, marks, lastmark := lm, lastindex := li, frames, weight, answer, seen }

theorem op0 : Sre.ops[0]? = some .FAILURE := rfl
theorem op1 : Sre.ops[1]? = some .SUCCESS := rfl
theorem op2 : Sre.ops[2]? = some .ANY := rfl
theorem op5 : Sre.ops[5]? = some .ASSERT_NOT := rfl
theorem op6 : Sre.ops[6]? = some .AT := rfl
theorem op7 : Sre.ops[7]? = some .BRANCH := rfl
theorem op13 : Sre.ops[13]? = some .IN := rfl
theorem op14 : Sre.ops[14]? = some .INFO := rfl
theorem op15 : Sre.ops[15]? = some .JUMP := rfl
theorem op16 : Sre.ops[16]? = some .LITERAL := rfl
theorem op17 : Sre.ops[17]? = some .MARK := rfl
theorem op24 : Sre.ops[24]? = some .REPEAT_ONE := rfl

section
variable {code t : Array Nat} {lim q ls pc pos h c : Nat} {f : Bool} {mk : Array (Option Nat)} {lm li : Int} {sn : Sre.Seen} {fr : List Sre.Frame} {w : Nat}

theorem litY (hpc : pc < code.size) (h0 : code.getD pc 0 = 16) (h1 : code.getD (pc + 1) 0 = c) (hp : pos < lim) (hc : t.getD pos 0 = c) :
    Sre.M.step (S code t lim q ls pc pos h f mk lm li fr w none sn) = S code t lim q ls (pc + 2) (pos + 1) h f mk lm li fr w none (sn.add 16) := by
  have hp' : ¬ (pos ≥ lim) := by omega
  simp only [Sre.M.step, Sre.M.exec, Sre.M.word, Nat.add_zero, h0, op16, Sre.accepts, h1, hc, hp', Sre.itemWidth, Option.isSome, Bool.false_eq_true, if_false, hpc, if_true, BEq.rfl]

theorem litN (hpc : pc < code.size) (h0 : code.getD pc 0 = 16) (h1 : code.getD (pc + 1) 0 = c) (hc : pos < lim → t.getD pos 0 ≠ c) :
    Sre.M.step (S code t lim q ls pc pos h f mk lm li fr w none sn) = S code t lim q ls pc pos h f mk lm li fr w (some false) (sn.add 16) := by
  by_cases hp : pos ≥ lim
  · simp only [Sre.M.step, Sre.M.exec, Sre.M.word, Nat.add_zero, h0, op16, hp, Option.isSome, Bool.false_eq_true, if_false, hpc, if_true, Sre.M.say]
  · have hb : (t.getD pos 0 == c) = false := by simpa using hc (by omega)
    simp only [Sre.M.step, Sre.M.exec, Sre.M.word, Nat.add_zero, h0, op16, Sre.accepts, h1, hb, hp, Option.isSome, Bool.false_eq_true, if_false, hpc, if_true, Sre.M.say]

abbrev NB (alt pos : Nat) (f : Bool) (lm li : Int) : Sre.Frame := { wait := .nextBranch, pc := alt, pos := pos, outermost := f, kept := { lastmark := lm, lastindex := li, whole := false, marks := #[] } }
theorem branch (hpc : pc < code.size) (h0 : code.getD pc 0 = 7) (h1 : code.getD (pc + 1) 0 = c) (hc : (c == 0) = false) (hw : w + 1 ≤ 16777216) :
    Sre.M.step (S code t lim q ls pc pos h f mk lm li fr w none sn) = S code t lim q ls (pc + 1 + 1) pos pos f mk lm li (NB (pc + 1) pos f lm li :: fr) (w + 1) none (sn.add 7) := by
  have hw' : ¬ (w + 1 + (#[] : Array (Option Nat)).size > 16777216) := by simp; omega
  simp only [Sre.M.step, Sre.M.exec, Sre.M.word, Nat.add_zero, h0, op7, Sre.M.alternative, Sre.M.keep, Sre.M.attempt, Sre.M.frame, h1, hc, hw', Option.isSome, Bool.false_eq_true, if_false, hpc, if_true]
  rfl
theorem nextAlt {alt p : Nat} (h0 : code.getD alt 0 = c) {d : Nat} (h1 : code.getD (alt + c) 0 = d) (hd : (d == 0) = false) (hw : w + 1 ≤ 16777216) {g : Bool} :
    Sre.M.step (S code t lim q ls pc pos h g mk lm li (NB alt p f lm li :: fr) (w + 1) (some false) sn) = S code t lim q ls (alt + c + 1) p p f mk lm li (NB (alt + c) p f lm li :: fr) (w + 1) none sn := by
  simp only [Sre.M.step, Sre.M.resume, Sre.M.putBack, Sre.M.alternative, Sre.M.attempt, Sre.M.frame, h0, h1, hd, Option.isSome, Bool.false_eq_true, if_false]
  simp
  intro hx
  exact absurd hx (by omega)
theorem lastAlt {alt p : Nat} (h0 : code.getD alt 0 = c) (h1 : code.getD (alt + c) 0 = 0) {g : Bool} :
    Sre.M.step (S code t lim q ls pc pos h g mk lm li (NB alt p f lm li :: fr) (w + 1) (some false) sn) = S code t lim q ls alt p h f mk lm li fr w (some false) sn := by
  simp only [Sre.M.step, Sre.M.resume, Sre.M.putBack, Sre.M.alternative, h0, h1, Option.isSome, Bool.false_eq_true, if_false, Sre.M.say]
  simp
theorem altYes {alt p : Nat} {g : Bool} :
    Sre.M.step (S code t lim q ls pc pos h g mk lm li (NB alt p f lm li :: fr) (w + 1) (some true) sn) = S code t lim q ls alt p h f mk lm li fr w (some true) sn := by
  simp only [Sre.M.step, Sre.M.resume, Option.isSome, Bool.false_eq_true, if_false, Sre.M.say]
  simp
theorem jump (hpc : pc < code.size) (h0 : code.getD pc 0 = 15) (h1 : code.getD (pc + 1) 0 = c) :
    Sre.M.step (S code t lim q ls pc pos h f mk lm li fr w none sn) = S code t lim q ls (pc + 1 + c) pos h f mk lm li fr w none (sn.add 15) := by
  simp only [Sre.M.step, Sre.M.exec, Sre.M.word, Nat.add_zero, h0, op15, h1, Option.isSome, Bool.false_eq_true, if_false, hpc, if_true]
theorem success (hpc : pc < code.size) (h0 : code.getD pc 0 = 1) :
    Sre.M.step (S code t lim q ls pc pos h f mk lm li fr w none sn) = S code t lim q ls pc pos pos f mk lm li fr w (some true) (sn.add 1) := by
  simp only [Sre.M.step, Sre.M.exec, Sre.M.word, Nat.add_zero, h0, op1, Option.isSome, Bool.false_eq_true, if_false, hpc, if_true, Bool.false_and, Bool.or_false, Bool.and_false, Sre.M.say]
abbrev LN (pc pos : Nat) (f : Bool) (lm li : Int) : Sre.Frame := { wait := .lookNot, pc := pc, pos := pos, outermost := f, kept := { lastmark := lm, lastindex := li, whole := false, marks := #[] } }
theorem lookNot (hpc : pc < code.size) (h0 : code.getD pc 0 = 5) (h2 : code.getD (pc + 2) 0 = 0) (hw : w + 1 ≤ 16777216) :
    Sre.M.step (S code t lim q ls pc pos h f mk lm li fr w none sn) = S code t lim q ls (pc + 3) pos pos false mk lm li (LN pc pos f lm li :: fr) (w + 1) none (sn.add 5) := by
  simp only [Sre.M.step, Sre.M.exec, Sre.M.word, Nat.add_zero, h0, op5, h2, Sre.M.keep, Sre.M.attempt, Sre.M.frame, Option.isSome, Bool.false_eq_true, if_false, hpc, if_true, Nat.not_lt_zero]
  simp
  intro hx
  exact absurd hx (by omega)
theorem lookNotNo {pc₀ p : Nat} {g : Bool} (h1 : code.getD (pc₀ + 1) 0 = c) :
    Sre.M.step (S code t lim q ls pc pos h g mk lm li (LN pc₀ p f lm li :: fr) (w + 1) (some false) sn) = S code t lim q ls (pc₀ + 1 + c) p h f mk lm li fr w none sn := by
  simp only [Sre.M.step, Sre.M.resume, Sre.M.putBack, Sre.M.word, h1, Option.isSome, Bool.false_eq_true, if_false]
  simp
abbrev NS (pc pos : Nat) (f : Bool) : Sre.Frame := { wait := .nextStart, pc := pc, pos := pos, outermost := f }
theorem startYes {pc₀ p : Nat} {g : Bool} :
    Sre.M.step (S code t lim q ls pc pos h g mk lm li (NS pc₀ p f :: fr) (w + 1) (some true) sn) = S code t lim q ls pc₀ p h f mk lm li fr w (some true) sn := by
  simp only [Sre.M.step, Sre.M.resume, Option.isSome, Bool.false_eq_true, if_false, Sre.M.say]
  simp
theorem over {yes : Bool} :
    Sre.M.step (S code t lim q ls pc pos h f mk lm li [] w (some yes) sn) = { S code t lim q ls pc pos h f mk lm li [] w (some yes) sn with outcome := some (if yes then .matched else .failed) } := by
  simp only [Sre.M.step, Option.isSome, Bool.false_eq_true, if_false]
end

def code2 : Array Nat := #[14, 9, 4, 1, 2, 16, 10, 16, 13, 0, 7, 7, 16, 13, 16, 10, 15, 18, 5, 16, 10, 15, 13, 11, 16, 13, 5, 5, 0, 16, 10, 1, 15, 2, 0, 1]
section
variable {t : Array Nat} {lim q : Nat} {f : Bool} {sn : Sre.Seen}
abbrev A2 (t : Array Nat) (lim q : Nat) (f : Bool) (sn : Sre.Seen) : M := S code2 t lim q lim 10 q q f #[] (-1) (-1) [NS 10 q f] 1 none sn
/-- the matcher comes to a match from `q` to `e` -/
def Hit (m : M) (q e : Nat) : Prop := ∃ n m', n ≤ 1000000 ∧ Rch n m m' ∧ m'.outcome = some .matched ∧ m'.start = q ∧ m'.handed = e
theorem Hit.of {m m₁ : M} {n q e : Nat} (hn : n ≤ 1000000) (r : Rch n m m₁) (h : m₁.outcome = some .matched ∧ m₁.start = q ∧ m₁.handed = e) : Hit m q e := ⟨n, m₁, hn, r, h⟩
theorem tail2 {p : Nat} (g : Bool) (sn : Sre.Seen) {h alt : Nat} (n : Nat) (hn : n ≤ 100) (m : M)
    (r : Rch n m (S code2 t lim q lim 35 p h g #[] (-1) (-1) (NB alt q f (-1) (-1) :: [NS 10 q f]) 2 none sn)) : Hit m q p := by
  have r1 := r.trans (Rch.to (success (code := code2) (by decide) rfl) rfl)
  have r2 := r1.trans (Rch.to altYes rfl)
  have r3 := r2.trans (Rch.to startYes rfl)
  have r4 := r3.trans (Rch.to over rfl)
  exact .of (by omega) r4 ⟨rfl, rfl, rfl⟩
theorem hitCRLF (h1 : q + 1 < lim) (hc : t.getD q 0 = 13) (hd : t.getD (q + 1) 0 = 10) : Hit (A2 t lim q f sn) q (q + 2) := by
  have r0 : Rch 1 (A2 t lim q f sn) _ := Rch.to (branch (code := code2) (by decide) rfl (c := 7) rfl rfl (by decide)) rfl
  have r1 := r0.trans (Rch.to (litY (code := code2) (by decide) rfl (c := 13) rfl (by omega) hc) rfl)
  have r2 := r1.trans (Rch.to (litY (code := code2) (by decide) rfl (c := 10) rfl h1 hd) rfl)
  have r3 := r2.trans (Rch.to (jump (code := code2) (by decide) rfl (c := 18) rfl) rfl)
  exact tail2 _ _ _ (by decide) _ r3
theorem hitLF (h1 : q < lim) (hc : t.getD q 0 = 10) : Hit (A2 t lim q f sn) q (q + 1) := by
  have r0 : Rch 1 (A2 t lim q f sn) _ := Rch.to (branch (code := code2) (by decide) rfl (c := 7) rfl rfl (by decide)) rfl
  have r1 := r0.trans (Rch.to (litN (code := code2) (by decide) rfl (c := 13) rfl (by rw [hc]; exact fun _ => by decide)) rfl)
  have r2 := r1.trans (Rch.to (nextAlt (code := code2) (c := 7) rfl (d := 5) rfl rfl (by decide)) rfl)
  have r3 := r2.trans (Rch.to (litY (code := code2) (by decide) rfl (c := 10) rfl h1 hc) rfl)
  have r4 := r3.trans (Rch.to (jump (code := code2) (by decide) rfl (c := 13) rfl) rfl)
  exact tail2 _ _ _ (by decide) _ r4
theorem hitCR (h1 : q < lim) (hc : t.getD q 0 = 13) (hd : q + 1 < lim → t.getD (q + 1) 0 ≠ 10) : Hit (A2 t lim q f sn) q (q + 1) := by
  have r0 : Rch 1 (A2 t lim q f sn) _ := Rch.to (branch (code := code2) (by decide) rfl (c := 7) rfl rfl (by decide)) rfl
  have r1 := r0.trans (Rch.to (litY (code := code2) (by decide) rfl (c := 13) rfl (by omega) hc) rfl)
  have r2 := r1.trans (Rch.to (litN (code := code2) (by decide) rfl (c := 10) rfl hd) rfl)
  have r3 := r2.trans (Rch.to (nextAlt (code := code2) (c := 7) rfl (d := 5) rfl rfl (by decide)) rfl)
  have r4 := r3.trans (Rch.to (litN (code := code2) (by decide) rfl (c := 10) rfl (by rw [hc]; exact fun _ => by decide)) rfl)
  have r5 := r4.trans (Rch.to (nextAlt (code := code2) (c := 5) rfl (d := 11) rfl rfl (by decide)) rfl)
  have r6 := r5.trans (Rch.to (litY (code := code2) (by decide) rfl (c := 13) rfl (by omega) hc) rfl)
  have r7 := r6.trans (Rch.to (lookNot (code := code2) (by decide) rfl rfl (by decide)) rfl)
  have r8 := r7.trans (Rch.to (litN (code := code2) (by decide) rfl (c := 10) rfl hd) rfl)
  have r9 := r8.trans (Rch.to (lookNotNo (code := code2) (c := 5) rfl) rfl)
  have r10 := r9.trans (Rch.to (jump (code := code2) (by decide) rfl (c := 2) rfl) rfl)
  exact tail2 _ _ _ (by decide) _ r10

/-- a line's end opens here -/
def nlAt (t : Array Nat) (i : Nat) : Bool := t.getD i 0 == 10 || t.getD i 0 == 13
theorem inSet2 (c : Nat) (sn : Sre.Seen) : ∃ sn', Sre.inSet code2 c code2.size 5 true sn = .ok (c == 10 || c == 13, sn') := by
  show ∃ sn', Sre.inSet code2 c (33 + 1 + 1 + 1) 5 true sn = _
  by_cases h : c = 10
  · subst h; exact ⟨_, rfl⟩
  · by_cases h' : c = 13
    · subst h'; exact ⟨_, rfl⟩
    · have e1 : (c == 10) = false := by simpa using h
      have e2 : (c == 13) = false := by simpa using h'
      have w5 : code2.getD (5 + 0) 0 = 16 := rfl
      have w6 : code2.getD (5 + 1) 0 = 10 := rfl
      have w7 : code2.getD (5 + 2 + 0) 0 = 16 := rfl
      have w8 : code2.getD (5 + 2 + 1) 0 = 13 := rfl
      have w9 : code2.getD (5 + 2 + 2 + 0) 0 = 0 := rfl
      refine ⟨((sn.add 16).add 16).add 0, ?_⟩
      simp only [Sre.inSet, w5, w6, w7, w8, w9, op16, op0, e1, e2, Bool.false_eq_true, if_false]
      rfl
theorem admSome (m : M) (hm : m.code = code2) (q : Nat) (hq : q < m.lim) (hn : nlAt m.text q = true) : ∀ (fuel s : Nat) (sn : Sre.Seen), s ≤ q → q - s < fuel → (∀ i, s ≤ i → i < q → nlAt m.text i = false) →
    ∃ sn', Sre.M.admitted m fuel s sn = .ok (some q, sn')
  | 0, _, _, _, h, _ => by omega
  | fuel + 1, s, sn, h1, h2, h3 => by
    unfold Sre.M.admitted
    rw [if_neg (by omega), hm]
    obtain ⟨sn₁, e⟩ := inSet2 (m.text.getD s 0) sn
    rw [e]
    by_cases hs : s = q
    · subst hs
      unfold nlAt at hn
      rw [hn]
      exact ⟨_, rfl⟩
    · have hf := h3 s (Nat.le_refl _) (by omega)
      unfold nlAt at hf
      rw [hf]
      exact admSome m hm q hq hn fuel (s + 1) sn₁ (by omega) (by omega) fun i hi => h3 i (by omega)
theorem admNone (m : M) (hm : m.code = code2) : ∀ (fuel s : Nat) (sn : Sre.Seen), (∀ i, s ≤ i → i < m.lim → nlAt m.text i = false) →
    ∃ sn', Sre.M.admitted m fuel s sn = .ok (none, sn')
  | 0, _, sn, _ => ⟨sn, rfl⟩
  | fuel + 1, s, sn, h3 => by
    unfold Sre.M.admitted
    by_cases hs : s ≥ m.lim
    · rw [if_pos hs]; exact ⟨_, rfl⟩
    · rw [if_neg hs, hm]
      obtain ⟨sn₁, e⟩ := inSet2 (m.text.getD s 0) sn
      rw [e]
      have hf := h3 s (Nat.le_refl _) (by omega)
      unfold nlAt at hf
      rw [hf]
      exact admNone m hm fuel (s + 1) sn₁ fun i hi => h3 i (by omega)
abbrev B2 (t : Array Nat) (lim pos : Nat) : M := { code := code2, text := t, lim, start := pos, lastStart := lim, pc := 10, pos, handed := pos, marks := #[], seen := ({} : Sre.Seen).add 14 }
theorem search2_open {pos : Nat} (h : pos < lim) : Sre.forSearch code2 t 0 pos lim false = (B2 t lim pos).attemptFrom pos true := by
  have h1 : ¬ (pos > lim ∨ lim - pos < 1) := by omega
  have e : Sre.forSearch code2 t 0 pos lim false = if pos > lim || decide (lim - pos < 1) then ({ code := code2, text := t, lim, start := pos, pc := 10, pos, handed := pos, marks := #[], seen := ({} : Sre.Seen).add 14 } : M).say false else (B2 t lim pos).attemptFrom pos true := rfl
  rw [e, if_neg (by simpa using h1)]
theorem search2_shut {pos : Nat} (h : lim ≤ pos) : (Sre.forSearch code2 t 0 pos lim false) = ({ code := code2, text := t, lim, start := pos, pc := 10, pos, handed := pos, marks := #[], seen := ({} : Sre.Seen).add 14 } : M).say false := by
  have e : Sre.forSearch code2 t 0 pos lim false = if pos > lim || decide (lim - pos < 1) then ({ code := code2, text := t, lim, start := pos, pc := 10, pos, handed := pos, marks := #[], seen := ({} : Sre.Seen).add 14 } : M).say false else (B2 t lim pos).attemptFrom pos true := rfl
  rw [e, if_pos (by simp; omega)]
def Miss (m : M) : Prop := ∃ n m', n ≤ 1000000 ∧ Rch n m m' ∧ m'.outcome = some .failed
theorem hit2 {pos q e : Nat} (hp : pos ≤ q) (hq : q < lim) (hn : nlAt t q = true) (hno : ∀ i, pos ≤ i → i < q → nlAt t i = false) (H : ∀ sn, Hit (A2 t lim q true sn) q e) : Hit (Sre.forSearch code2 t 0 pos lim false) q e := by
  rw [search2_open (by omega)]
  obtain ⟨sn', hs⟩ := admSome (B2 t lim pos) rfl q hq hn (lim + 1 - pos) pos (({} : Sre.Seen).add 14) hp (by omega) hno
  have e1 : (B2 t lim pos).attemptFrom pos true = A2 t lim q true sn' := by
    unfold Sre.M.attemptFrom
    have : (B2 t lim pos).hasFirstSet = true := rfl
    rw [this]
    show (match Sre.M.admitted (B2 t lim pos) (lim + 1 - pos) pos (({} : Sre.Seen).add 14) with | _ => _) = _
    rw [hs]
    rfl
  rw [e1]
  exact H sn'
theorem miss2 {pos : Nat} (hno : ∀ i, pos ≤ i → i < lim → nlAt t i = false) : Miss (Sre.forSearch code2 t 0 pos lim false) := by
  by_cases h : pos < lim
  · rw [search2_open h]
    obtain ⟨sn', hs⟩ := admNone (B2 t lim pos) rfl (lim + 1 - pos) pos (({} : Sre.Seen).add 14) hno
    have e1 : (B2 t lim pos).attemptFrom pos true = { B2 t lim pos with seen := sn', answer := some false } := by
      unfold Sre.M.attemptFrom
      have : (B2 t lim pos).hasFirstSet = true := rfl
      rw [this]
      show (match Sre.M.admitted (B2 t lim pos) (lim + 1 - pos) pos (({} : Sre.Seen).add 14) with | _ => _) = _
      rw [hs]
      rfl
    rw [e1]
    exact ⟨1, _, by decide, Rch.to rfl rfl, rfl⟩
  · rw [search2_shut (by omega)]
    exact ⟨1, _, by decide, Rch.to rfl rfl, rfl⟩
end

section
variable {code t : Array Nat} {lim q ls pc pos h c : Nat} {f : Bool} {mk : Array (Option Nat)} {lm li : Int} {sn : Sre.Seen} {fr : List Sre.Frame} {w : Nat}
/-- a line begins here -/
def bol (t : Array Nat) (i : Nat) : Bool := i == 0 || t.getD (i - 1) 0 == 10
theorem atY (hpc : pc < code.size) (h0 : code.getD pc 0 = 6) (h1 : code.getD (pc + 1) 0 = 1) (hb : bol t pos = true) :
    Sre.M.step (S code t lim q ls pc pos h f mk lm li fr w none sn) = S code t lim q ls (pc + 2) pos h f mk lm li fr w none ((sn.add 6).add 44) := by
  unfold bol at hb
  simp only [Sre.M.step, Sre.M.exec, Sre.M.word, Nat.add_zero, h0, op6, h1, Sre.M.isAt, hb, Option.isSome, Bool.false_eq_true, if_false, hpc, if_true]
theorem atN (hpc : pc < code.size) (h0 : code.getD pc 0 = 6) (h1 : code.getD (pc + 1) 0 = 1) (hb : bol t pos = false) :
    Sre.M.step (S code t lim q ls pc pos h f mk lm li fr w none sn) = S code t lim q ls pc pos h f mk lm li fr w (some false) ((sn.add 6).add 44) := by
  unfold bol at hb
  simp only [Sre.M.step, Sre.M.exec, Sre.M.word, Nat.add_zero, h0, op6, h1, Sre.M.isAt, hb, Option.isSome, Bool.false_eq_true, if_false, hpc, if_true, Sre.M.say]
end
def code1 : Array Nat := #[14, 4, 0, 1, 1, 6, 1, 16, 46, 1]
section
variable {t : Array Nat} {lim q : Nat} {f : Bool} {sn : Sre.Seen}
abbrev A1 (t : Array Nat) (lim q : Nat) (f : Bool) (sn : Sre.Seen) : M := S code1 t lim q lim 5 q q f #[] (-1) (-1) [NS 5 q f] 1 none sn
/-- a dot at a line's head -/
def dotAt (t : Array Nat) (i : Nat) : Bool := bol t i && t.getD i 0 == 46
theorem startNo1 {pos h p q : Nat} {pc : Nat} {g : Bool} (hp : p < lim) :
    Sre.M.step (S code1 t lim q lim pc pos h g #[] (-1) (-1) [NS 5 p f] 1 (some false) sn) = A1 t lim (p + 1) false sn := by
  simp only [Sre.M.step, Sre.M.resume, Option.isSome, Bool.false_eq_true, if_false, hp, if_true]
  rfl
theorem startNo1E {pos h p q : Nat} {pc : Nat} {g : Bool} (hp : ¬ p < lim) :
    (Sre.M.step (S code1 t lim q lim pc pos h g #[] (-1) (-1) [NS 5 p f] 1 (some false) sn)) = S code1 t lim q lim 5 p h f #[] (-1) (-1) [] 0 (some false) sn := by
  simp only [Sre.M.step, Sre.M.resume, Option.isSome, Bool.false_eq_true, if_false, hp, Sre.M.say]
  simp
theorem hitDot (h1 : q < lim) (hd : dotAt t q = true) {m : M} {n : Nat} (hn : n ≤ 900000) (r : Rch n m (A1 t lim q f sn)) : Hit m q (q + 1) := by
  unfold dotAt at hd
  obtain ⟨hb, hc⟩ := Bool.and_eq_true_iff.mp hd
  have r0 := r.trans (Rch.to (atY (code := code1) (by decide) rfl rfl hb) rfl)
  have r1 := r0.trans (Rch.to (litY (code := code1) (by decide) rfl (c := 46) rfl h1 (by simpa using hc)) rfl)
  have r2 := r1.trans (Rch.to (success (code := code1) (by decide) rfl) rfl)
  have r3 := r2.trans (Rch.to startYes rfl)
  have r4 := r3.trans (Rch.to over rfl)
  exact .of (by omega) r4 ⟨rfl, rfl, rfl⟩
/-- an attempt that fails -/
theorem fail1 (hd : q < lim → dotAt t q = false) : ∃ n pc pos h sn', n ≤ 2 ∧ Rch n (A1 t lim q f sn) (S code1 t lim q lim pc pos h f #[] (-1) (-1) [NS 5 q f] 1 (some false) sn') := by
  cases hb : bol t q with
  | false => exact ⟨1, _, _, _, _, by decide, Rch.to (atN (code := code1) (by decide) rfl rfl hb) rfl⟩
  | true =>
    have r0 : Rch 1 (A1 t lim q f sn) _ := Rch.to (atY (code := code1) (by decide) rfl rfl hb) rfl
    have r1 := r0.trans (Rch.to (litN (code := code1) (by decide) rfl (c := 46) rfl (fun hq => by have := hd hq; unfold dotAt at this; rw [hb] at this; simpa using this)) rfl)
    exact ⟨2, _, _, _, _, by decide, r1⟩
theorem scan1 : ∀ (k q : Nat) (f : Bool) (sn : Sre.Seen), q + k ≤ lim → (∀ i, q ≤ i → i < q + k → dotAt t i = false) → ∃ n sn' f', n ≤ 3 * k ∧ Rch n (A1 t lim q f sn) (A1 t lim (q + k) f' sn')
  | 0, q, f, sn, _, _ => ⟨0, sn, f, by omega, .refl _⟩
  | k + 1, q, f, sn, hl, hd => by
    obtain ⟨n, pc, pos, h, sn₁, hn, r⟩ := fail1 (t := t) (lim := lim) (q := q) (f := f) (sn := sn) fun _ => hd q (by omega) (by omega)
    have r1 := r.trans (Rch.to (startNo1 (by omega)) rfl)
    obtain ⟨n', sn', f', hn', r'⟩ := scan1 k (q + 1) false sn₁ (by omega) fun i h1 h2 => hd i (by omega) (by omega)
    have e : q + 1 + k = q + (k + 1) := by omega
    rw [e] at r'
    exact ⟨n + 1 + n', sn', f', by omega, r1.trans r'⟩
theorem search1_open {pos : Nat} (h : pos < lim) : Sre.forSearch code1 t 0 pos lim false = A1 t lim pos true (({} : Sre.Seen).add 14) := by
  have h1 : ¬ (pos > lim ∨ lim - pos < 1) := by omega
  have e : Sre.forSearch code1 t 0 pos lim false = if pos > lim || decide (lim - pos < 1) then ({ code := code1, text := t, lim, start := pos, pc := 5, pos, handed := pos, marks := #[], seen := ({} : Sre.Seen).add 14 } : M).say false else A1 t lim pos true (({} : Sre.Seen).add 14) := rfl
  rw [e, if_neg (by simpa using h1)]
theorem search1_shut {pos : Nat} (h : lim ≤ pos) : (Sre.forSearch code1 t 0 pos lim false) = ({ code := code1, text := t, lim, start := pos, pc := 5, pos, handed := pos, marks := #[], seen := ({} : Sre.Seen).add 14 } : M).say false := by
  have e : Sre.forSearch code1 t 0 pos lim false = if pos > lim || decide (lim - pos < 1) then ({ code := code1, text := t, lim, start := pos, pc := 5, pos, handed := pos, marks := #[], seen := ({} : Sre.Seen).add 14 } : M).say false else A1 t lim pos true (({} : Sre.Seen).add 14) := rfl
  rw [e, if_pos (by simp; omega)]
theorem hit1 {pos q : Nat} (hl : lim ≤ 10000) (hp : pos ≤ q) (hq : q < lim) (hn : dotAt t q = true) (hno : ∀ i, pos ≤ i → i < q → dotAt t i = false) : Hit (Sre.forSearch code1 t 0 pos lim false) q (q + 1) := by
  rw [search1_open (by omega)]
  obtain ⟨n, sn', f', h1, r⟩ := scan1 (t := t) (lim := lim) (q - pos) pos true (({} : Sre.Seen).add 14) (by omega) fun i h1 h2 => hno i h1 (by omega)
  rw [show pos + (q - pos) = q by omega] at r
  exact hitDot hq hn (by omega) r
theorem miss1 {pos : Nat} (hl : lim ≤ 10000) (hno : ∀ i, pos ≤ i → i < lim → dotAt t i = false) : Miss (Sre.forSearch code1 t 0 pos lim false) := by
  by_cases h : pos < lim
  · rw [search1_open h]
    obtain ⟨n, sn', f', h1, r⟩ := scan1 (t := t) (lim := lim) (lim - pos) pos true (({} : Sre.Seen).add 14) (by omega) fun i h1 h2 => hno i h1 (by omega)
    rw [show pos + (lim - pos) = lim by omega] at r
    obtain ⟨n', pc, pos', h', sn₁, hn, r'⟩ := fail1 (t := t) (lim := lim) (q := lim) (f := f') (sn := sn') fun hh => absurd hh (Nat.lt_irrefl _)
    have r2 := (r.trans r').trans (Rch.to (startNo1E (Nat.lt_irrefl _)) rfl)
    have r3 := r2.trans (Rch.to over rfl)
    exact ⟨_, _, by omega, r3, rfl⟩
  · rw [search1_shut (by omega)]
    exact ⟨1, _, by decide, Rch.to rfl rfl, rfl⟩
end
end Rx
end Mine
end
section
open PySem
namespace Mine
namespace Rx
theorem op20 : Sre.ops[20]? = some .NOT_LITERAL := rfl
theorem run_ok {code t : Array Nat} {i : Nat} (acc : Nat → Bool) (hacc : ∀ c sn, Sre.accepts code i c sn = .ok (acc c, sn)) : ∀ (k n p found : Nat) (sn : Sre.Seen), k ≤ n → (∀ j, j < k → acc (t.getD (p + j) 0) = true) → (k = n ∨ acc (t.getD (p + k) 0) = false) →
    Sre.run code t i n p found sn = .ok (found + k, sn)
  | 0, 0, _, _, _, _, _, _ => rfl
  | 0, n + 1, p, found, sn, _, _, h => by
    have h' : acc (t.getD p 0) = false := by
      rcases h with h | h
      · omega
      · simpa using h
    unfold Sre.run
    rw [hacc, h']
    rfl
  | k + 1, 0, _, _, _, h, _, _ => by omega
  | k + 1, n + 1, p, found, sn, hk, hj, h => by
    have h' : acc (t.getD p 0) = true := by simpa using hj 0 (by omega)
    unfold Sre.run
    rw [hacc, h']
    show Sre.run code t i n (p + 1) (found + 1) sn = _
    rw [run_ok acc hacc k n (p + 1) (found + 1) sn (by omega) (fun j hj' => by rw [show p + 1 + j = p + (j + 1) by omega]; exact hj (j + 1) (by omega))
      (h.imp (by omega) fun h => by rw [show p + 1 + k = p + (k + 1) by omega]; exact h)]
    rw [show found + 1 + k = found + (k + 1) by omega]

section
variable {code t : Array Nat} {lim q ls pc pos h c sk : Nat} {f : Bool} {mk : Array (Option Nat)} {lm li : Int} {sn : Sre.Seen} {fr : List Sre.Frame} {w : Nat}
abbrev GB (pc pos : Nat) (f : Bool) (count : Int) (lm li : Int) : Sre.Frame := { wait := .giveBack, pc := pc, pos := pos, outermost := f, count := count, kept := { lastmark := lm, lastindex := li, whole := false, marks := #[] } }
theorem rep {k : Nat} (hpc : pc < code.size) (h0 : code.getD pc 0 = 24) (h1 : code.getD (pc + 1) 0 = sk) (h2 : code.getD (pc + 2) 0 = 0) (h3 : code.getD (pc + 3) 0 = 4294967295) (hl : lim ≤ 10000) (hp : pos ≤ lim) (hw : w + 1 ≤ 16777216)
    (hrun : ∀ sn, ∃ sn', Sre.run code t (pc + 4) (lim - pos) pos 0 sn = .ok (k, sn')) : ∃ sn',
    Sre.M.step (S code t lim q ls pc pos h f mk lm li fr w none sn) = S code t lim q ls (pc + 1 + sk) (pos + k) (pos + k) f mk lm li (GB pc (pos + k) f k lm li :: fr) (w + 1) none sn' := by
  obtain ⟨sn', hr⟩ := hrun ((sn.add 24).add (code.getD (pc + 4) 0))
  refine ⟨sn', ?_⟩
  have e1 : ¬ (((0 : Nat) : Int) > (lim : Int) - pos) := by omega
  have e2 : min 4294967295 ((lim : Int) - pos).toNat = lim - pos := by omega
  have hw' : ¬ (w + 1 + (#[] : Array (Option Nat)).size > 16777216) := by simp; omega
  simp only [Sre.M.step, Sre.M.exec, Sre.M.word, Nat.add_zero, h0, op24, h1, h2, h3, e1, e2, hr, Option.isSome, Bool.false_eq_true, if_false, hpc, if_true, Nat.not_lt_zero, Sre.M.afterRun, Sre.M.keep, Sre.M.attempt, Sre.M.frame, hw']
  rfl
theorem backNo {pc₀ p k : Nat} {g : Bool} {lm' li' : Int} (h1 : code.getD (pc₀ + 1) 0 = sk) (h2 : code.getD (pc₀ + 2) 0 = 0) (hw : w + 1 ≤ 16777216) :
    Sre.M.step (S code t lim q ls pc pos h g mk lm li (GB pc₀ p f (k + 1 : Nat) lm' li' :: fr) (w + 1) (some false) sn) =
    S code t lim q ls (pc₀ + 1 + sk) (p - 1) (p - 1) f mk lm' li' (GB pc₀ (p - 1) f k lm' li' :: fr) (w + 1) none sn := by
  have e1 : ((k + 1 : Nat) : Int) - 1 = k := by omega
  have e2 : ¬ ((k : Int) < ((0 : Nat) : Int)) := by omega
  have hw' : ¬ (w + 1 + (#[] : Array (Option Nat)).size > 16777216) := by simp; omega
  have hw2 : w + 1 - (1 + (#[] : Array (Option Nat)).size) = w := by simp
  simp only [Sre.M.step, Sre.M.resume, Sre.M.putBack, Sre.M.word, h1, h2, e1, e2, Option.isSome, Bool.false_eq_true, if_false, Sre.M.afterRun, Sre.M.attempt, Sre.M.frame, hw2, hw']
  rfl
theorem backYes {pc₀ p : Nat} {g : Bool} {k lm' li' : Int} :
    Sre.M.step (S code t lim q ls pc pos h g mk lm li (GB pc₀ p f k lm' li' :: fr) (w + 1) (some true) sn) = S code t lim q ls pc₀ p h f mk lm li fr w (some true) sn := by
  simp only [Sre.M.step, Sre.M.resume, Option.isSome, Bool.false_eq_true, if_false, Sre.M.say]
  simp
theorem mark0 (hpc : pc < code.size) (h0 : code.getD pc 0 = 17) (h1 : code.getD (pc + 1) 0 = 0) :
    Sre.M.step (S code t lim q ls pc pos h f #[none, none] (-1) (-1) fr w none sn) = S code t lim q ls (pc + 2) pos h f #[some pos, none] 0 (-1) fr w none (sn.add 17) := by
  simp only [Sre.M.step, Sre.M.exec, Sre.M.word, Nat.add_zero, h0, op17, h1, Sre.M.mark, Option.isSome, Bool.false_eq_true, if_false, hpc, if_true]
  rfl
theorem mark1 {x : Option Nat} (hpc : pc < code.size) (h0 : code.getD pc 0 = 17) (h1 : code.getD (pc + 1) 0 = 1) :
    Sre.M.step (S code t lim q ls pc pos h f #[x, none] 0 (-1) fr w none sn) = S code t lim q ls (pc + 2) pos h f #[x, some pos] 1 1 fr w none (sn.add 17) := by
  simp only [Sre.M.step, Sre.M.exec, Sre.M.word, Nat.add_zero, h0, op17, h1, Sre.M.mark, Option.isSome, Bool.false_eq_true, if_false, hpc, if_true]
  rfl
end

def code0 : Array Nat := #[14, 4, 0, 8, 4294967295, 24, 5, 0, 4294967295, 2, 1, 16, 70, 16, 76, 16, 65, 16, 71, 16, 83, 16, 32, 16, 40, 17, 0, 24, 6, 0, 4294967295, 20, 41, 1, 17, 1, 16, 41, 1]
theorem acc_any (c : Nat) (sn : Sre.Seen) : Sre.accepts code0 9 c sn = .ok (c != 10, sn) := rfl
theorem acc_not (c : Nat) (sn : Sre.Seen) : Sre.accepts code0 31 c sn = .ok (c != 41, sn) := rfl

section
variable {t : Array Nat} {lim : Nat}
abbrev A0 (t : Array Nat) (lim : Nat) : M := S code0 t lim 0 0 5 0 0 true #[none, none] (-1) (-1) [] 0 none (({} : Sre.Seen).add 14)
theorem match0_open (h : 8 ≤ lim) : Sre.forMatch code0 t 1 0 lim false false = A0 t lim := by
  have e : Sre.forMatch code0 t 1 0 lim false false = if ((8 : Nat) != 0 && decide (0 ≤ lim) && decide (lim - 0 < 8)) = true then (A0 t lim).say false else A0 t lim := rfl
  rw [e, if_neg (by simp; omega)]
/-- the run gives back, sign by sign, till the F -/
theorem back0 : ∀ (k p : Nat) (sn : Sre.Seen) (h : Nat), p = 2 + k → (∀ i, 2 < i → i ≤ p → i < lim → t.getD i 0 ≠ 70) → ∃ n sn' h', n ≤ 2 * k ∧
    Rch n (S code0 t lim 0 0 11 p h true #[none, none] (-1) (-1) [GB 5 p true (p : Nat) (-1) (-1)] 1 none sn) (S code0 t lim 0 0 11 2 h' true #[none, none] (-1) (-1) [GB 5 2 true (2 : Nat) (-1) (-1)] 1 none sn')
  | 0, p, sn, h, hp, _ => by
    subst hp
    exact ⟨0, sn, h, by omega, .refl _⟩
  | k + 1, p, sn, h, hp, hn => by
    subst hp
    have r0 : Rch 1 (S code0 t lim 0 0 11 (2 + (k + 1)) h true #[none, none] (-1) (-1) [GB 5 (2 + (k + 1)) true ((2 + (k + 1) : Nat) : Int) (-1) (-1)] 1 none sn) _ :=
      Rch.to (litN (code := code0) (by decide) rfl (c := 70) rfl (fun hq => hn _ (by omega) (Nat.le_refl _) hq)) rfl
    have e : ((2 + (k + 1) : Nat) : Int) = ((2 + k + 1 : Nat) : Int) := by omega
    rw [e] at r0
    have r1 := r0.trans (Rch.to (backNo (code := code0) (k := 2 + k) rfl rfl (by decide)) rfl)
    obtain ⟨n, sn', h', hn', r⟩ := back0 k (2 + k) (sn.add 16) (2 + (k + 1) - 1) rfl fun i h1 h2 h3 => hn i h1 (by omega) h3
    have e2 : 2 + (k + 1) - 1 = 2 + k := by omega
    rw [e2] at r1 r
    refine ⟨1 + 1 + n, sn', h', by omega, ?_⟩
    rw [e]
    exact r1.trans r

/-- what the text has to be: FLAGS ( at 2, no other F behind it on the first line, the first line's end at N, a ) at e and none between -/
structure FlagText (t : Array Nat) (lim N e : Nat) : Prop where
  small : lim ≤ 10000
  word : t.getD 2 0 = 70 ∧ t.getD 3 0 = 76 ∧ t.getD 4 0 = 65 ∧ t.getD 5 0 = 71 ∧ t.getD 6 0 = 83 ∧ t.getD 7 0 = 32 ∧ t.getD 8 0 = 40
  fst : 2 ≤ N ∧ N ≤ lim
  line : ∀ i, i < N → t.getD i 0 ≠ 10
  lineEnd : N = lim ∨ t.getD N 0 = 10
  noF : ∀ i, 2 < i → i ≤ N → i < lim → t.getD i 0 ≠ 70
  close : 9 ≤ e ∧ e < lim ∧ t.getD e 0 = 41
  inside : ∀ i, 9 ≤ i → i < e → t.getD i 0 ≠ 41

theorem hit0 {N e : Nat} (T : FlagText t lim N e) : ∃ n m', n ≤ 1000000 ∧ Rch n (Sre.forMatch code0 t 1 0 lim false false) m' ∧ m'.outcome = some .matched ∧ m'.start = 0 ∧ m'.handed = e + 1 ∧
    m'.marks = #[some 9, some e] ∧ m'.lastmark = 1 ∧ m'.lastindex = 1 := by
  obtain ⟨hs, ⟨w2, w3, w4, w5, w6, w7, w8⟩, ⟨n1, n2⟩, hl, hle, hF, ⟨e1, e2, e3⟩, hin⟩ := T
  rw [match0_open (by omega)]
  obtain ⟨sn₁, a1⟩ := rep (code := code0) (t := t) (lim := lim) (q := 0) (ls := 0) (pc := 5) (pos := 0) (h := 0) (f := true) (mk := #[none, none]) (lm := -1) (li := -1) (fr := []) (w := 0) (sn := ({} : Sre.Seen).add 14) (sk := 5) (k := N) (by decide) rfl rfl rfl rfl hs (by omega) (by decide)
    (fun sn => ⟨sn, by
      have := run_ok (t := t) (fun c => c != 10) acc_any N (lim - 0) 0 0 sn (by omega) (fun j hj => by simpa using hl j hj) (hle.imp (by omega) fun h => by simpa using h)
      simpa using this⟩)
  have r0 : Rch 1 (A0 t lim) _ := Rch.to a1 rfl
  rw [show 0 + N = N by omega] at r0
  obtain ⟨n, sn₂, h₂, hn, rb⟩ := back0 (t := t) (lim := lim) (N - 2) N sn₁ N (by omega) hF
  have r1 := r0.trans rb
  have r2 := r1.trans (Rch.to (litY (code := code0) (by decide) rfl (c := 70) rfl (by omega) w2) rfl)
  have r3 := r2.trans (Rch.to (litY (code := code0) (by decide) rfl (c := 76) rfl (by omega) w3) rfl)
  have r4 := r3.trans (Rch.to (litY (code := code0) (by decide) rfl (c := 65) rfl (by omega) w4) rfl)
  have r5 := r4.trans (Rch.to (litY (code := code0) (by decide) rfl (c := 71) rfl (by omega) w5) rfl)
  have r6 := r5.trans (Rch.to (litY (code := code0) (by decide) rfl (c := 83) rfl (by omega) w6) rfl)
  have r7 := r6.trans (Rch.to (litY (code := code0) (by decide) rfl (c := 32) rfl (by omega) w7) rfl)
  have r8 := r7.trans (Rch.to (litY (code := code0) (by decide) rfl (c := 40) rfl (by omega) w8) rfl)
  have r9 := r8.trans (Rch.to (mark0 (code := code0) (by decide) rfl rfl) rfl)
  obtain ⟨sn₃, a3⟩ := rep (code := code0) (t := t) (lim := lim) (q := 0) (ls := 0) (pc := 27) (pos := 9) (h := h₂) (f := true) (mk := #[some 9, none]) (lm := 0) (li := -1) (fr := [GB 5 2 true (2 : Nat) (-1) (-1)]) (w := 1) (sn := ((((((((sn₂.add 16).add 16).add 16).add 16).add 16).add 16).add 16).add 17)) (sk := 6) (k := e - 9) (by decide) rfl rfl rfl rfl hs (by omega) (by decide)
    (fun sn => ⟨sn, by
      have := run_ok (t := t) (fun c => c != 41) acc_not (e - 9) (lim - 9) 9 0 sn (by omega) (fun j hj => by simpa using hin (9 + j) (by omega) (by omega)) (.inr (by rw [show 9 + (e - 9) = e by omega, e3]; rfl))
      simpa using this⟩)
  have r10 := r9.trans (Rch.to a3 rfl)
  rw [show 9 + (e - 9) = e by omega] at r10
  have r11 := r10.trans (Rch.to (mark1 (code := code0) (by decide) rfl rfl) rfl)
  have r12 := r11.trans (Rch.to (litY (code := code0) (by decide) rfl (c := 41) rfl e2 e3) rfl)
  have r13 := r12.trans (Rch.to (success (code := code0) (by decide) rfl) rfl)
  have r14 := r13.trans (Rch.to backYes rfl)
  have r15 := r14.trans (Rch.to backYes rfl)
  have r16 := r15.trans (Rch.to over rfl)
  exact ⟨_, _, by omega, r16, rfl, rfl, rfl, rfl, rfl, rfl⟩
end
end Rx
end Mine
end
section
open PySem PySem.W PyProof.Rows PySem.Calls PySem.Spec PySem.Builtin.Re
set_option maxHeartbeats 1000000
namespace Mine
namespace Rx

theorem runFor_add (a b : Nat) : ∀ m : M, Sre.M.runFor (a + b) m = Sre.M.runFor b (Sre.M.runFor a m) := by
  induction a with
  | zero => intro m; rw [Nat.zero_add]; rfl
  | succ a ih =>
    intro m
    rw [show a + 1 + b = (a + b) + 1 by omega]
    by_cases h : m.outcome.isSome = true
    · rw [runFor_stop h, runFor_stop h, runFor_stop h]
    · simp only [Sre.M.runFor, h, Bool.false_eq_true, if_false]
      exact ih _

section
variable {M₀ : Model} {A : Around} {E : Value → Shared → Prop} {s : Shared}

theorem wp_drive {Q : M → Shared → Prop} : ∀ (k turns : Nat) (m : M), k < turns → (Sre.M.runFor (4 * (k + 1)) m).outcome.isSome = true → Q (Sre.M.runFor (4 * (k + 1)) m) s → wpAny M₀ A (reDrive turns m) Q E s
  | k, 0, _, h, _, _ => by omega
  | 0, t + 1, m, _, ho, hq => by
    unfold reDrive
    show wpAny M₀ A (if (Sre.M.runFor 4 m).outcome.isSome then pure (Sre.M.runFor 4 m) else _) Q E s
    rw [if_pos ho]
    exact wpAny_pure hq
  | k + 1, t + 1, m, h, ho, hq => by
    unfold reDrive
    show wpAny M₀ A (if (Sre.M.runFor 4 m).outcome.isSome then pure (Sre.M.runFor 4 m) else (do rule "sre.turn"; reDrive t (Sre.M.runFor 4 m))) Q E s
    rw [show 4 * (k + 1 + 1) = 4 + 4 * (k + 1) by omega, runFor_add] at ho hq
    by_cases h4 : (Sre.M.runFor 4 m).outcome.isSome = true
    · rw [if_pos h4]
      rw [runFor_stop h4] at hq
      exact wpAny_pure hq
    · rw [if_neg h4]
      exact wpAny_bind (wpAny_rule (wp_drive k t _ (by omega) ho hq))

theorem wp_rules {p : Nat → Bool} {g : Nat → String} {Q : PUnit → Shared → Prop} : ∀ (l : List Nat), Q ⟨⟩ s → wpAny M₀ A (forIn l PUnit.unit fun i (_ : PUnit) => if p i = true then (do rule (g i); pure (ForInStep.yield PUnit.unit)) else pure (ForInStep.yield PUnit.unit)) Q E s
  | [], h => by rw [List.forIn_nil]; exact wpAny_pure h
  | i :: l, h => by
    rw [List.forIn_cons]
    refine wpAny_bind ?_
    split
    · exact wpAny_bind (wpAny_rule (wpAny_pure (wp_rules l h)))
    · exact wpAny_pure (wp_rules l h)

theorem wp_end {m m' : M} {n : Nat} {o : Sre.Outcome} {Q : M → Shared → Prop} (hn : n ≤ 1000000) (r : Rch n m m') (ho : m'.outcome = some o) (h : Q m' s) : wpAny M₀ A (reDrive (2 ^ 64) m) Q E s := by
  have e : ∀ k, Sre.M.runFor (n + k) m = m' := fun k => by rw [r k, runFor_stop (by rw [ho]; rfl)]
  have e4 : Sre.M.runFor (4 * (n + 1)) m = m' := by rw [show 4 * (n + 1) = n + (3 * n + 4) by omega]; exact e _
  refine wp_drive n (2 ^ 64) m (Nat.lt_of_le_of_lt hn (by decide)) ?_ ?_
  · rw [e4, ho]; rfl
  · rw [e4]; exact h
theorem wp_hit {m m' : M} {n : Nat} {Q : Option M → Shared → Prop} (hn : n ≤ 1000000) (r : Rch n m m') (ho : m'.outcome = some .matched) (h : Q (some m') s) : wpAny M₀ A (reRunToEnd m) Q E s := by
  unfold reRunToEnd
  refine wpAny_bind (wp_end hn r ho ?_)
  refine wpAny_bind (wp_rules _ ?_)
  rw [ho]
  exact wpAny_pure h
theorem wp_miss {m : M} {Q : Option M → Shared → Prop} (hm : Miss m) (h : Q none s) : wpAny M₀ A (reRunToEnd m) Q E s := by
  obtain ⟨n, m', hn, r, ho⟩ := hm
  unfold reRunToEnd
  refine wpAny_bind (wp_end hn r ho ?_)
  refine wpAny_bind (wp_rules _ ?_)
  rw [ho]
  exact wpAny_pure h
end
end Rx
end Mine
end
section
open PySem PySem.W PyProof.Rows PySem.Calls PySem.Spec PySem.Builtin.Re
set_option maxHeartbeats 1000000
namespace Mine
namespace Rx
def flat (ys : List Str) : List Nat := ys.flatMap (·.cps.toList)
theorem flat_snoc (ys : List Str) (y : Str) : flat (ys ++ [y]) = flat ys ++ y.cps.toList := by simp [flat]
theorem glued_foldl : ∀ (l : List Str) (acc : Array Nat), (l.foldl (fun acc p => acc ++ (#[] : Array Nat) ++ p.cps) acc).toList = acc.toList ++ flat l
  | [], acc => by simp [flat]
  | y :: l, acc => by
    rw [List.foldl_cons, glued_foldl l]
    simp [flat]
theorem join_empty (ys : List Str) : Txt.join ⟨#[]⟩ ys = ⟨(flat ys).toArray⟩ := by
  unfold Txt.join Builtin.Str.glued
  congr 1
  apply Array.toList_inj.mp
  rw [glued_foldl]
  cases ys with
  | nil => rfl
  | cons y l => simp [flat]
theorem flat_length (ys : List Str) : (flat ys).length = (ys.map (·.length)).sum := by
  induction ys with
  | nil => rfl
  | cons y l ih =>
    simp only [flat, List.flatMap_cons, List.length_append, List.map_cons, List.sum_cons] at ih ⊢
    rw [ih]; rfl
theorem strsAre_snoc {vs : List Value} {ys : List Str} (h : StrsAre vs ys) (y : Str) (t : Tok) : StrsAre (vs ++ [.str y t]) (ys ++ [y]) := by
  induction h with
  | nil => exact .cons y t .nil
  | cons z u _ ih => exact .cons z u ih
theorem strsAre_length {vs : List Value} {ys : List Str} (h : StrsAre vs ys) : vs.length = ys.length := by
  induction h with
  | nil => rfl
  | cons z u _ ih => simp [ih]

theorem ext_toList (a : Array Nat) (p q : Nat) : (a.extract p q).toList = (a.toList.drop p).take (q - p) := by
  rw [Array.toList_extract, List.extract_eq_take_drop]

/-- how the search and the rest of the answer hang together -/
def SubSpec (code t : Array Nat) (repl : List Nat) (rest : Nat → List Nat) : Prop :=
  ∀ p, p ≤ t.size → (Miss (Sre.forSearch code t 0 p t.size false) ∧ rest p = t.toList.drop p) ∨
    ∃ q e, p ≤ q ∧ q < e ∧ e ≤ t.size ∧ Hit (Sre.forSearch code t 0 p t.size false) q e ∧ rest p = (t.toList.drop p).take (q - p) ++ repl ++ rest e

section
variable {prog : Program} {w : World} {A : Around} {E : Value → Shared → Prop} {s : Shared} {K : Frag} {h₀ : Heap}
theorem push_list {l : Addr} {items : Array Value} {x : Value} {Q : Unit → Shared → Prop} (hl : s.heap.IsList l items)
    (hQ : ∀ h', h'.IsList l (items.push x) → Heap.SameBut l s.heap h' → Q () { s with heap := h' }) (hsz : items.size ≤ sizeLine) :
    wpAny (model prog w) A (updateSeq l (·.push x)) Q E s := by
  obtain ⟨o, ho, hc, n, hd⟩ := id hl
  obtain ⟨n', hd'⟩ := Obj.data_mapSeq hd (·.push x)
  refine wpAny_updateSeq ho hd ?_ hsz (by rw [Array.size_push]; omega)
  exact hQ _ ⟨_, Heap.get?_update_self _ ho (Obj.isFreed_of_seq hd'), (Obj.cls_mapSeq ..).trans hc, n', hd'⟩ (Heap.SameBut.update ..)

theorem slice_str {t : Array Nat} {b e : Nat} {Q : Value → Shared → Prop} (hs : t.size ≤ 10000) (h : Q (.str ⟨t.extract b e⟩ s.toks) { s with toks := s.toks + 1 }) :
    wpAny (model prog w) A (reSlice t 0 b e) Q E s := by
  show wpAny (model prog w) A (mkStr ⟨t.extract b e⟩) Q E s
  exact wpAny_mkStr h (by show (t.extract b e).size ≤ _; rw [sizeLine_eq, Array.size_extract]; omega)

theorem entry_subloop : entryFor table "re.Pattern.sub.loop" = some Builtin.«re.Pattern.sub.loop» := entryFor_of_tree (by kernel_rfl)
theorem quiet_subloop (args : Args) : (Code.builtin "re.Pattern.sub.loop" args).quiet = true := plainId_quiet (by decide +kernel) args
theorem under_subloop (args : Args) : A.under (.builtin "re.Pattern.sub.loop" args) = A.in1 := Around.under_plainId (by decide +kernel) args

theorem sub_loop {pat : Value} {t repl : Str} {tk rt : Tok} {code : Array Nat} {rest : Nat → List Nat} {L : Addr} {k : Nat}
    (hpk : ∀ S, peek K S (reWholeTarget pat (.str t tk)) = some { pattern := pat, string := .str t tk, code := code, text := t.cps, kind := 0, groups := 0, pos := 0, lim := t.cps.size })
    (hpr : ∀ S, peek K S (reLiteralCannotBeTurned (.str repl rt)) = some ())
    (X : K.In h₀) (hnew : h₀.get? L = none) (hs : t.cps.size ≤ 10000) (Sp : SubSpec code t.cps repl.cps.toList rest) :
    ∀ (fuel p : Nat) (n : Int) (s : Shared) (items : Array Value) (ys : List Str), t.cps.size - p < fuel → p ≤ t.cps.size → (∀ b o, h₀.get? b = some o → s.heap.get? b = some o) → s.heap.IsList L items → StrsAre items.toList ys →
      ys.length ≤ 2 * p → (flat ys).length + (rest p).length ≤ 100000 →
      codeAny (model prog w) A (.builtin "re.Pattern.sub.loop" ⟨[pat, .str t tk, .str repl rt, rawInt 0, rawInt 0, rawInt n, rawInt (p : Int), rawInt (p : Int), .bool false, .ref L, .bool false], []⟩)
        (fun r s' => ∃ u h' tk', r = .ok (.ret (.str ⟨(flat ys ++ rest p).toArray⟩ u)) ∧ s' = { s with heap := h', toks := tk' } ∧ ∀ b o, h₀.get? b = some o → h'.get? b = some o) s := by
  intro fuel
  induction fuel with
  | zero => intro p n s items ys hf; omega
  | succ fuel ih =>
    intro p n s items ys hf hp hk hl hi hc hb
    refine codeAny_builtin entry_subloop ?_
    rw [under_subloop]
    unfold Builtin.«re.Pattern.sub.loop»
    have X' := X.keeps hk
    have hszI : items.size ≤ sizeLine := by have := strsAre_length hi; rw [Array.length_toList] at this; rw [sizeLine_eq]; omega
    show wpAny _ _ (reWholeTarget pat (.str t tk) >>= _) _ _ s
    refine wpAny_bind ((Looks.of_peek X' (hpk _)).here ?_)
    show wpAny _ _ (reLiteralCannotBeTurned (.str repl rt) >>= _) _ _ s
    refine wpAny_bind ((Looks.of_peek X' (hpr _)).here ?_)
    show wpAny _ _ (reRunToEnd (Sre.forSearch code t.cps 0 ((p : Int).toNat) t.cps.size false) >>= _) _ _ s
    rw [Int.toNat_natCast]
    refine wpAny_bind ?_
    rcases Sp p hp with ⟨hm, hr⟩ | ⟨q, e, hpq, hqe, he, hh, hr⟩
    · refine wp_miss hm ?_
      dsimp only
      have fin_ : ∀ (s₁ : Shared) (items₁ : Array Value) (ys₁ : List Str), (∃ h' tk', s₁ = { s with heap := h', toks := tk' }) → (∀ b o, h₀.get? b = some o → s₁.heap.get? b = some o) → s₁.heap.IsList L items₁ → StrsAre items₁.toList ys₁ →
          ys₁.length ≤ 2 * p + 1 → flat ys₁ = flat ys ++ rest p → 
          wpAny (model prog w) A.in1 (do
            let joiner ← reSlice t.cps 0 0 0
            let text ← if ((← seqItems? (.ref L)).getD #[]).isEmpty then pure joiner else call (.builtin "str.join") [joiner, .ref L]
            ret text) (fun fin s' => ∃ u h' tk', fin = .done (.ret (.str ⟨(flat ys ++ rest p).toArray⟩ u)) ∧ s' = { s with heap := h', toks := tk' } ∧ ∀ b o, h₀.get? b = some o → h'.get? b = some o) (fun _ _ => False) s₁ := by
        intro s₁ items₁ ys₁ hs₁ hk₁ hl₁ hi₁ hc₁ hfl
        obtain ⟨h₂, tk₂, rfl⟩ := hs₁
        have e0 : (t.cps.extract 0 0) = #[] := by simp
        refine wpAny_bind (slice_str hs ?_)
        rw [e0]
        have hs1 : ∀ (Q : Option (Array Value) → Shared → Prop) (s₂ : Shared), s₂.heap = h₂ → Q (some items₁) s₂ → wpAny (model prog w) A.in1 (seqItems? (.ref L)) Q (fun _ _ => False) s₂ := by
          intro Q s₂ hh hq
          obtain ⟨o, ho, hc, nn, hd⟩ := hl₁
          refine wpAny_bind (wpAny_load (o := o) (by rw [hh]; exact ho) ?_)
          rw [hd]
          exact wpAny_pure hq
        refine wpAny_bind (hs1 _ _ rfl ?_)
        show wpAny _ _ (if items₁.isEmpty = true then _ else _) _ _ _
        split
        · rename_i hem
          have : items₁ = #[] := by simpa using hem
          subst this
          cases hi₁
          refine wpAny_pure ⟨tk₂, _, _, ?_, rfl, hk₁⟩
          rw [← hfl]
          rfl
        · refine wpAny_bind ?_
          refine join_listW (hl := by exact hl₁) (hi := hi₁) (by decide) ?_ fun t' k' => ?_
          · rw [← flat_length, hfl]
            simp only [List.length_append]
            omega
          · refine wpAny_pure ⟨t', _, _, ?_, rfl, hk₁⟩
            rw [join_empty, hfl]
      have lift_ : ∀ (s₁ : Shared) (T : Sem Fin), wpAny (model prog w) A.in1 T (fun fin s' => ∃ u h' tk', fin = .done (.ret (.str ⟨(flat ys ++ rest p).toArray⟩ u)) ∧ s' = { s with heap := h', toks := tk' } ∧ ∀ b o, h₀.get? b = some o → h'.get? b = some o) (fun _ _ => False) s₁ →
          wpAny (model prog w) A.in1 T (fun fin s' =>
            match fin with
            | .done f => ∃ u h' tk', (Except.ok f : Result) = .ok (.ret (.str ⟨(flat ys ++ rest p).toArray⟩ u)) ∧ s' = { s with heap := h', toks := tk' } ∧ ∀ b o, h₀.get? b = some o → h'.get? b = some o
            | .again c' => c'.quiet = true ∧ codeAny (model prog w) A c' (fun r s' => ∃ u h' tk', r = .ok (.ret (.str ⟨(flat ys ++ rest p).toArray⟩ u)) ∧ s' = { s with heap := h', toks := tk' } ∧ ∀ b o, h₀.get? b = some o → h'.get? b = some o) s')
            (fun e s' => ∃ u h' tk', (Except.error e : Result) = .ok (.ret (.str ⟨(flat ys ++ rest p).toArray⟩ u)) ∧ s' = { s with heap := h', toks := tk' } ∧ ∀ b o, h₀.get? b = some o → h'.get? b = some o) s₁ := fun s₁ T h => wpAny_mono h (fun fin s' hq => by
              obtain ⟨u, h', tk', rfl, rest⟩ := hq
              exact ⟨u, h', tk', rfl, rest⟩) fun _ _ f => f.elim
      by_cases hlt : p < t.cps.size
      · have hlt' : ((p : Int).toNat) < t.cps.size := by rw [Int.toNat_natCast]; exact hlt
        show wpAny _ _ (if (p : Int).toNat < t.cps.size then _ else _) _ _ _
        rw [if_pos hlt']
        show wpAny _ _ (reSlice t.cps 0 p t.cps.size >>= _) _ _ s
        refine wpAny_bind (slice_str hs ?_)
        refine wpAny_bind (push_list hl (fun h₁ hl₁ hs₁ => ?_) hszI)
        refine lift_ _ _ (fin_ _ _ (ys ++ [⟨t.cps.extract p t.cps.size⟩]) ⟨_, _, rfl⟩ (fun b o hb => ?_) hl₁ ?_ ?_ ?_)
        · have hbL : b ≠ L := fun q => by rw [q, hnew] at hb; cases hb
          exact (hs₁.2 b hbL).trans (hk b o hb)
        · simp only [Array.toList_push]
          exact strsAre_snoc hi _ _
        · simp only [List.length_append, List.length_singleton]; omega
        · rw [flat_snoc, hr]
          show flat ys ++ (t.cps.extract p t.cps.size).toList = _
          rw [ext_toList]
          congr 1
          apply List.take_of_length_le
          rw [List.length_drop, Array.length_toList]
          exact Nat.le_refl _
      · have hlt' : ¬ ((p : Int).toNat) < t.cps.size := by rw [Int.toNat_natCast]; exact hlt
        show wpAny _ _ (if (p : Int).toNat < t.cps.size then _ else _) _ _ _
        rw [if_neg hlt']
        refine lift_ _ _ (fin_ s _ ys ⟨_, _, rfl⟩ hk hl hi (by omega) ?_)
        rw [hr, List.drop_of_length_le (by rw [Array.length_toList]; omega), List.append_nil]
    · obtain ⟨nn, m', hn, r, ho, hst, hhd⟩ := hh
      refine wp_hit hn r ho ?_
      dsimp only
      rw [hst, hhd]
      have hfin : (e == q) = false := by simp; omega
      rw [hfin]
      have again_ : ∀ (s₁ : Shared) (items₁ : Array Value) (ys₁ : List Str), (∃ h' tk', s₁ = { s with heap := h', toks := tk' }) → (∀ b o, h₀.get? b = some o → s₁.heap.get? b = some o) → s₁.heap.IsList L items₁ → StrsAre items₁.toList ys₁ →
          ys₁.length ≤ 2 * e → flat ys₁ = flat ys ++ (t.cps.toList.drop p).take (q - p) ++ repl.cps.toList → 
          codeAny (model prog w) A (.builtin "re.Pattern.sub.loop" ⟨[pat, .str t tk, .str repl rt, rawInt 0, rawInt 0, rawInt (n + 1), rawInt (e : Int), rawInt (e : Int), .bool false, .ref L, .bool false], []⟩)
            (fun r s' => ∃ u h' tk', r = .ok (.ret (.str ⟨(flat ys ++ rest p).toArray⟩ u)) ∧ s' = { s with heap := h', toks := tk' } ∧ ∀ b o, h₀.get? b = some o → h'.get? b = some o) s₁ := by
        intro s₁ items₁ ys₁ hs₁ hk₁ hl₁ hi₁ hc₁ hfl
        refine codeAny_mono (ih e (n + 1) s₁ items₁ ys₁ (by omega) he hk₁ hl₁ hi₁ hc₁ ?_) ?_
        · rw [hr] at hb
          rw [hfl]
          simp only [List.length_append] at hb ⊢
          omega
        · rintro r s' ⟨u, h', tk', rfl, rfl, hk'⟩
          obtain ⟨h₂, tk₂, rfl⟩ := hs₁
          refine ⟨u, h', tk', ?_, rfl, hk'⟩
          rw [hfl, hr]
          simp only [List.append_assoc]
      have hne : (Value.str repl rt != Value.none) = true := rfl
      by_cases hlt : p < q
      · rw [if_pos hlt]
        refine wpAny_bind (slice_str hs ?_)
        refine wpAny_bind (push_list hl (fun h₁ hl₁ hs₁ => ?_) hszI)
        show wpAny _ _ (pure (Value.str repl rt) >>= _) _ _ _
        refine wpAny_bind (wpAny_pure ?_)
        rw [if_pos hne]
        have hszI' : (items.push (Value.str ⟨t.cps.extract p q⟩ s.toks)).size ≤ sizeLine := by have := strsAre_length hi; rw [Array.length_toList] at this; rw [Array.size_push, sizeLine_eq]; omega
        refine wpAny_bind (push_list hl₁ (fun h₂ hl₂ hs₂ => ?_) hszI')
        refine wpAny_pure ⟨quiet_subloop _, again_ _ _ (ys ++ [⟨t.cps.extract p q⟩] ++ [repl]) ⟨_, _, rfl⟩ (fun b o hb => ?_) hl₂ ?_ ?_ ?_⟩
        · have hbL : b ≠ L := fun q => by rw [q, hnew] at hb; cases hb
          exact (hs₂.2 b hbL).trans ((hs₁.2 b hbL).trans (hk b o hb))
        · simp only [Array.toList_push]
          exact strsAre_snoc (strsAre_snoc hi _ _) _ _
        · simp only [List.length_append, List.length_singleton]; omega
        · rw [flat_snoc, flat_snoc]
          show flat ys ++ (t.cps.extract p q).toList ++ _ = _
          rw [ext_toList]
      · rw [if_neg hlt]
        show wpAny _ _ (pure (Value.str repl rt) >>= _) _ _ _
        refine wpAny_bind (wpAny_pure ?_)
        rw [if_pos hne]
        refine wpAny_bind (push_list hl (fun h₂ hl₂ hs₂ => ?_) hszI)
        refine wpAny_pure ⟨quiet_subloop _, again_ _ _ (ys ++ [repl]) ⟨_, _, rfl⟩ (fun b o hb => ?_) hl₂ ?_ ?_ ?_⟩
        · have hbL : b ≠ L := fun q => by rw [q, hnew] at hb; cases hb
          exact (hs₂.2 b hbL).trans (hk b o hb)
        · simp only [Array.toList_push]
          exact strsAre_snoc hi _ _
        · simp only [List.length_append, List.length_singleton]; omega
        · rw [flat_snoc, show q - p = 0 by omega]
          simp
end
end Rx
end Mine
end
section
open PySem PySem.W PyProof.Rows PySem.Calls PySem.Spec PySem.Builtin.Re
set_option maxHeartbeats 1000000
namespace Mine
namespace Rx
/-- line ends as CR LF; the flag: a CR has just been read (and its LF is written) -/
def crlf : Bool → List Nat → List Nat
  | _, [] => []
  | b, c :: r => if c = 10 then (if b then crlf false r else 13 :: 10 :: crlf false r) else if c = 13 then 13 :: 10 :: crlf true r else c :: crlf false r
/-- a dot at a line's head twice; the flag: a line begins -/
def dots : Bool → List Nat → List Nat
  | _, [] => []
  | b, c :: r => if b && c == 46 then 46 :: 46 :: dots false r else c :: dots (c == 10) r

theorem first_or (P : Nat → Bool) (n : Nat) : ∀ (k p : Nat), p + k = n → (∃ q, p ≤ q ∧ q < n ∧ P q = true ∧ ∀ i, p ≤ i → i < q → P i = false) ∨ ∀ i, p ≤ i → i < n → P i = false
  | 0, p, h => .inr fun i h1 h2 => by omega
  | k + 1, p, h => by
    cases hp : P p with
    | true => exact .inl ⟨p, Nat.le_refl _, by omega, hp, fun i h1 h2 => by omega⟩
    | false =>
      rcases first_or P n k (p + 1) (by omega) with ⟨q, h1, h2, h3, h4⟩ | h1
      · refine .inl ⟨q, by omega, h2, h3, fun i h5 h6 => ?_⟩
        by_cases he : i = p
        · rw [he]; exact hp
        · exact h4 i (by omega) h6
      · refine .inr fun i h5 h6 => ?_
        by_cases he : i = p
        · rw [he]; exact hp
        · exact h1 i (by omega) h6
theorem drop_at {t : Array Nat} {p : Nat} (h : p < t.size) : t.toList.drop p = t.getD p 0 :: t.toList.drop (p + 1) := by
  rw [List.drop_eq_getElem_cons (by simpa using h)]
  congr 1
  simp [Array.getD, h]
theorem crlf_run {t : Array Nat} : ∀ (k p : Nat), p + k ≤ t.size → (∀ i, p ≤ i → i < p + k → nlAt t i = false) → crlf false (t.toList.drop p) = (t.toList.drop p).take k ++ crlf false (t.toList.drop (p + k))
  | 0, p, _, _ => by simp
  | k + 1, p, h, hn => by
    have h0 := hn p (Nat.le_refl _) (by omega)
    unfold nlAt at h0
    simp only [Bool.or_eq_false_iff, beq_eq_false_iff_ne, ne_eq] at h0
    rw [drop_at (by omega : p < t.size)]
    rw [List.take_succ_cons]
    have ih := crlf_run k (p + 1) (by omega) fun i h1 h2 => hn i (by omega) (by omega)
    rw [show p + 1 + k = p + (k + 1) by omega] at ih
    simp only [crlf, h0.1, h0.2, if_false]
    rw [ih]
    rfl
theorem crlf_any {b : Bool} {l : List Nat} (h : ∀ c r, l = c :: r → c ≠ 10) : crlf b l = crlf false l := by
  cases l with
  | nil => rfl
  | cons c r =>
    have := h c r rfl
    simp only [crlf, this, if_false]
theorem spec2 (t : Array Nat) : SubSpec code2 t [13, 10] (fun p => crlf false (t.toList.drop p)) := by
  intro p hp
  rcases first_or (nlAt t) t.size (t.size - p) p (by omega) with ⟨q, h1, h2, h3, h4⟩ | h1
  · right
    have run := crlf_run (t := t) (q - p) p (by omega) fun i h5 h6 => h4 i h5 (by omega)
    rw [show p + (q - p) = q by omega] at run
    have hq := drop_at h2
    have h3' := h3
    unfold nlAt at h3'
    simp only [Bool.or_eq_true, beq_iff_eq] at h3'
    rcases h3' with hc | hc
    · refine ⟨q, q + 1, h1, by omega, by omega, hit2 h1 h2 h3 h4 fun sn => hitLF h2 hc, ?_⟩
      dsimp only
      rw [run, hq, hc]
      simp [crlf]
    · by_cases hn : q + 1 < t.size ∧ t.getD (q + 1) 0 = 10
      · refine ⟨q, q + 2, h1, by omega, by omega, hit2 h1 h2 h3 h4 fun sn => hitCRLF hn.1 hc hn.2, ?_⟩
        dsimp only
        rw [run, hq, hc, drop_at hn.1, hn.2]
        simp [crlf]
      · refine ⟨q, q + 1, h1, by omega, by omega, hit2 h1 h2 h3 h4 fun sn => hitCR h2 hc fun h5 h6 => hn ⟨h5, h6⟩, ?_⟩
        dsimp only
        rw [run, hq, hc]
        have e : crlf true (t.toList.drop (q + 1)) = crlf false (t.toList.drop (q + 1)) := crlf_any fun c r hcr hc10 => by
          by_cases h5 : q + 1 < t.size
          · rw [drop_at h5] at hcr
            injection hcr with h6 h7
            exact hn ⟨h5, by rw [h6, hc10]⟩
          · rw [List.drop_of_length_le (by rw [Array.length_toList]; omega)] at hcr
            cases hcr
        simp [crlf, e]
  · left
    refine ⟨miss2 h1, ?_⟩
    have run := crlf_run (t := t) (t.size - p) p (by omega) fun i h5 h6 => h1 i h5 (by omega)
    dsimp only
    rw [run, show p + (t.size - p) = t.size by omega, List.drop_of_length_le (i := t.size) (by rw [Array.length_toList]; exact Nat.le_refl _)]
    rw [List.take_of_length_le (by rw [List.length_drop, Array.length_toList]; exact Nat.le_refl _)]
    simp [crlf]
theorem bol_succ (t : Array Nat) (p : Nat) : bol t (p + 1) = (t.getD p 0 == 10) := by
  unfold bol
  simp
theorem dots_run {t : Array Nat} : ∀ (k p : Nat), p + k ≤ t.size → (∀ i, p ≤ i → i < p + k → dotAt t i = false) → dots (bol t p) (t.toList.drop p) = (t.toList.drop p).take k ++ dots (bol t (p + k)) (t.toList.drop (p + k))
  | 0, p, _, _ => by simp
  | k + 1, p, h, hn => by
    have h0 := hn p (Nat.le_refl _) (by omega)
    unfold dotAt at h0
    rw [drop_at (by omega : p < t.size), List.take_succ_cons]
    have ih := dots_run k (p + 1) (by omega) fun i h1 h2 => hn i (by omega) (by omega)
    rw [show p + 1 + k = p + (k + 1) by omega, bol_succ] at ih
    simp only [dots, h0, Bool.false_eq_true, if_false]
    rw [ih]
    rfl
theorem spec1 (t : Array Nat) (hs : t.size ≤ 10000) : SubSpec code1 t [46, 46] (fun p => dots (bol t p) (t.toList.drop p)) := by
  intro p hp
  rcases first_or (dotAt t) t.size (t.size - p) p (by omega) with ⟨q, h1, h2, h3, h4⟩ | h1
  · right
    have run := dots_run (t := t) (q - p) p (by omega) fun i h5 h6 => h4 i h5 (by omega)
    rw [show p + (q - p) = q by omega] at run
    refine ⟨q, q + 1, h1, by omega, by omega, hit1 hs h1 h2 h3 h4, ?_⟩
    dsimp only
    have h3' := h3
    unfold dotAt at h3'
    obtain ⟨hb, hc⟩ := Bool.and_eq_true_iff.mp h3'
    have hc' : t.getD q 0 = 46 := by simpa using hc
    rw [run, drop_at h2, bol_succ, hb, hc']
    simp [dots]
  · left
    refine ⟨miss1 hs h1, ?_⟩
    have run := dots_run (t := t) (t.size - p) p (by omega) fun i h5 h6 => h1 i h5 (by omega)
    dsimp only
    rw [run, show p + (t.size - p) = t.size by omega, List.drop_of_length_le (i := t.size) (by rw [Array.length_toList]; exact Nat.le_refl _)]
    rw [List.take_of_length_le (by rw [List.length_drop, Array.length_toList]; exact Nat.le_refl _)]
    simp [dots]
end Rx
end Mine
end
section
open PySem PySem.W PyProof.Rows PySem.Calls PySem.Spec PySem.Builtin.Re
set_option maxHeartbeats 1000000
namespace Mine
namespace Rx
theorem plainAttrs_pat : PlainAttrs "re.Pattern" :=
  ⟨⟨"object.__getattribute__", by rw [typeLookup_type, builtinLookup_eq_fast]; kernel_rfl, by decide +kernel⟩, by rw [typeLookup_type, builtinLookup_eq_fast]; kernel_rfl⟩
theorem owner_pat : Manifest.owners.lookup (String.ofList ['n', 'r', 'e', 't', 't', 'a', 'P', '.', 'e', 'r'].reverse) = some Manifest.sig_re_Pattern := by kernel_rfl
theorem slot_sub : Slot "re.Pattern" "sub" "re.Pattern.sub" :=
  .of (owner := "re.Pattern") (n := "sub") (by rw [typeLookup_type, builtinLookup_eq_fast]; kernel_rfl) (by decide +kernel) (by decide +kernel) (by decide +kernel)
    (by first | exact .inl (by decide +kernel) | exact .inr (by decide +kernel)) (by rw [isSubtype_type]; kernel_rfl)
theorem type_sub : typeOf (.builtin "re.Pattern.sub") = pure (.type "method_descriptor") := by show builtinType _ = _; rw [builtinType_eq_fast]; kernel_rfl
theorem entry_sub : entryFor table "re.Pattern.sub" = some Builtin.«re.Pattern.sub» := entryFor_of_tree (by kernel_rfl)
theorem args_sub (a b c : Value) : argsOk "re.Pattern.sub" ⟨[a, b, c], []⟩ := by
  unfold argsOk; rw [signature?_of (id := "re.Pattern.sub") (n := ['b', 'u', 's']) (o := ['n', 'r', 'e', 't', 't', 'a', 'P', '.', 'e', 'r']) (by kernel_rfl) owner_pat]; kernel_rfl

theorem noCall_str {x : Str} {t : Tok} : specialOf (.str x t) "__call__" = pure none := by
  show (typeOf (.str x t) >>= fun ty => typeLookup ty "__call__") = _
  show typeLookup (.type "str") "__call__" = pure none
  rw [typeLookup_type, builtinLookup_eq_fast]; kernel_rfl


theorem slot_match : Slot "re.Pattern" "match" "re.Pattern.match" :=
  .of (owner := "re.Pattern") (n := "match") (by rw [typeLookup_type, builtinLookup_eq_fast]; kernel_rfl) (by decide +kernel) (by decide +kernel) (by decide +kernel)
    (by first | exact .inl (by decide +kernel) | exact .inr (by decide +kernel)) (by rw [isSubtype_type]; kernel_rfl)
theorem type_match : typeOf (.builtin "re.Pattern.match") = pure (.type "method_descriptor") := by show builtinType _ = _; rw [builtinType_eq_fast]; kernel_rfl
theorem entry_match : entryFor table "re.Pattern.match" = some Builtin.«re.Pattern.match» := entryFor_of_tree (by kernel_rfl)
theorem args_match (a b : Value) : argsOk "re.Pattern.match" ⟨[a, b], []⟩ := by
  unfold argsOk; rw [signature?_of (id := "re.Pattern.match") (n := ['h', 'c', 't', 'a', 'm']) (o := ['n', 'r', 'e', 't', 't', 'a', 'P', '.', 'e', 'r']) (by kernel_rfl) owner_pat]; kernel_rfl
theorem plainAttrs_mat : PlainAttrs "re.Match" :=
  ⟨⟨"object.__getattribute__", by rw [typeLookup_type, builtinLookup_eq_fast]; kernel_rfl, by decide +kernel⟩, by rw [typeLookup_type, builtinLookup_eq_fast]; kernel_rfl⟩
theorem owner_mat : Manifest.owners.lookup (String.ofList ['h', 'c', 't', 'a', 'M', '.', 'e', 'r'].reverse) = some Manifest.sig_re_Match := by kernel_rfl
theorem slot_group : Slot "re.Match" "group" "re.Match.group" :=
  .of (owner := "re.Match") (n := "group") (by rw [typeLookup_type, builtinLookup_eq_fast]; kernel_rfl) (by decide +kernel) (by decide +kernel) (by decide +kernel)
    (by first | exact .inl (by decide +kernel) | exact .inr (by decide +kernel)) (by rw [isSubtype_type]; kernel_rfl)
theorem type_group : typeOf (.builtin "re.Match.group") = pure (.type "method_descriptor") := by show builtinType _ = _; rw [builtinType_eq_fast]; kernel_rfl
theorem entry_group : entryFor table "re.Match.group" = some Builtin.«re.Match.group» := entryFor_of_tree (by kernel_rfl)
theorem args_group (a b : Value) : argsOk "re.Match.group" ⟨[a, b], []⟩ := by
  unfold argsOk; rw [signature?_of (id := "re.Match.group") (n := ['p', 'u', 'o', 'r', 'g']) (o := ['h', 'c', 't', 'a', 'M', '.', 'e', 'r']) (by kernel_rfl) owner_mat]; kernel_rfl
theorem noBool_mat : typeLookup (.type "re.Match") "__bool__" = pure none := by
  rw [typeLookup_type, builtinLookup_eq_fast]; kernel_rfl
theorem noLen_mat : typeLookup (.type "re.Match") "__len__" = pure none := by
  rw [typeLookup_type, builtinLookup_eq_fast]; kernel_rfl
theorem noIndex_str : typeLookup (.type "str") "__index__" = pure none := by
  rw [typeLookup_type, builtinLookup_eq_fast]; kernel_rfl
theorem plainAttrs_byt : PlainAttrs "bytes" :=
  ⟨⟨"bytes.__getattribute__", by rw [typeLookup_type, builtinLookup_eq_fast]; kernel_rfl, by decide +kernel⟩, by rw [typeLookup_type, builtinLookup_eq_fast]; kernel_rfl⟩
theorem owner_byt : Manifest.owners.lookup (String.ofList ['s', 'e', 't', 'y', 'b'].reverse) = some Manifest.sig_bytes := by kernel_rfl
theorem slot_bsplit : Slot "bytes" "split" "bytes.split" :=
  .of (owner := "bytes") (n := "split") (by rw [typeLookup_type, builtinLookup_eq_fast]; kernel_rfl) (by decide +kernel) (by decide +kernel) (by decide +kernel)
    (by first | exact .inl (by decide +kernel) | exact .inr (by decide +kernel)) (by rw [isSubtype_type]; kernel_rfl)
theorem type_bsplit : typeOf (.builtin "bytes.split") = pure (.type "method_descriptor") := by show builtinType _ = _; rw [builtinType_eq_fast]; kernel_rfl
theorem entry_bsplit : entryFor table "bytes.split" = some Builtin.«bytes.split» := entryFor_of_tree (by kernel_rfl)
theorem args_bsplit (a : Value) : argsOk "bytes.split" ⟨[a], []⟩ := by
  unfold argsOk; rw [signature?_of (id := "bytes.split") (n := ['t', 'i', 'l', 'p', 's']) (o := ['s', 'e', 't', 'y', 'b']) (by kernel_rfl) owner_byt]; kernel_rfl
end Rx
end Mine
end
section
open PySem PySem.W PyProof.Rows PySem.Calls PySem.Spec PySem.Builtin.Re
set_option maxHeartbeats 1000000
namespace Mine
namespace Rx
section
variable {prog : Program} {w : World} {A : Around} {E : Value → Shared → Prop} {s : Shared} {K : Frag}
theorem sub_call {a : Addr} {t repl : Str} {tk rt : Tok} {code : Array Nat} {rest : Nat → List Nat} {Q : Value → Shared → Prop}
    (hpk : ∀ S, peek K S (reWholeTarget (.ref a) (.str t tk)) = some { pattern := .ref a, string := .str t tk, code := code, text := t.cps, kind := 0, groups := 0, pos := 0, lim := t.cps.size })
    (hlit : repl.cps.contains 92 = false)
    (X : K.In s.heap) (hT : s.TypeIs (.ref a) "re.Pattern") (hs : t.cps.size ≤ 10000) (Sp : SubSpec code t.cps repl.cps.toList rest) (hb : (rest 0).length ≤ 100000)
    (hQ : ∀ u h' tk', (∀ b o, s.heap.get? b = some o → h'.get? b = some o) → Q (.str ⟨(rest 0).toArray⟩ u) { s with heap := h', toks := tk' }) :
    wpAny (model prog w) A (call (.builtin "re.Pattern.sub") [.ref a, .str repl rt, .str t tk]) Q E s := by
  refine wpAny_call (codeAny_call_builtin slot_sub.plain entry_sub (slot_sub.check _ _ _ _ _ _ _ _ hT (args_sub _ _ _) ?_))
  show wpAny _ _ (reNamed "re.Pattern.sub" "sub" ["repl", "string", "count"] 2 [.str repl rt, .str t tk] [] >>= _) _ _ _
  refine wpAny_bind ((Looks.of_peek (K := []) (r := [some (.str repl rt), some (.str t tk), none]) (fun a o e => by cases e) (by kernel_rfl)).here ?_)
  show wpAny _ _ (pure (0 : Int) >>= _) _ _ _
  refine wpAny_bind (wpAny_pure ?_)
  show wpAny _ _ (specialOf (.str repl rt) "__call__" >>= _) _ _ _
  rw [noCall_str]
  refine wpAny_bind (wpAny_pure ?_)
  show wpAny _ _ (asStr? (.str repl rt) >>= _) _ _ _
  refine wpAny_bind (wpAny_pure ?_)
  show wpAny _ _ (pure (!repl.cps.contains 92) >>= _) _ _ _
  rw [hlit]
  refine wpAny_bind (wpAny_pure ?_)
  show wpAny _ _ (pure (Value.str repl rt, (0 : Int)) >>= _) _ _ _
  refine wpAny_bind (wpAny_pure ?_)
  show wpAny _ _ (holding [.str repl rt] (reWholeTarget (.ref a) (.str t tk)) >>= _) _ _ _
  refine wpAny_bind (wpAny_holding ((Looks.of_peek X (hpk _)).here ?_))
  show wpAny _ _ (newList [] >>= _) _ _ _
  refine wpAny_bind (wpAny_newObj_type ?_ (by size_fits))
  refine wpAny_pure ⟨quiet_subloop _, ?_⟩
  have hfree : s.heap.get? s.heap.objs.size = none := Heap.get?_none_of_le (Nat.le_refl _)
  refine codeAny_mono (sub_loop (K := K) (h₀ := s.heap) (L := s.heap.objs.size) (rest := rest) (k := 0) hpk (fun S => by kernel_rfl) X hfree hs Sp (t.cps.size + 1) 0 0 _ #[] [] (by omega) (Nat.zero_le _) (fun b o e => Heap.get?_push_of_some _ e) ⟨_, Heap.get?_push_size _ rfl, rfl, _, rfl⟩ .nil (by simp) (by simp [flat]; omega)) ?_
  rintro r s' ⟨u, h', tk', rfl, rfl, hk'⟩
  have := hQ u h' tk' hk'
  simpa [flat] using this
end
end Rx
end Mine
end
section
open PySem PySem.W PyProof.Rows PySem.Calls PySem.Spec PySem.Builtin.Re
set_option maxHeartbeats 1000000
namespace Mine
namespace Rx
theorem pk63 (P : Params) (S : Setting) (b : Array UInt8) (tk : Tok) : peek (Mine.hd.heap_39 P) S (reTarget "re.Pattern.match" "match" ⟨[.ref 63, .bytes b tk], []⟩) = some { pattern := .ref 63, string := .bytes b tk, code := Rx.code0, text := b.map (·.toNat), kind := 1, groups := 1, pos := min 0 (b.map (·.toNat)).size, lim := min (2 ^ 63 - 1 : Int).toNat (b.map (·.toNat)).size } := by
  kernel_rfl
theorem pk80 (P : Params) (S : Setting) (t : Str) (tk : Tok) : peek (Mine.hd.heap_39 P) S (reWholeTarget (.ref 80) (.str t tk)) = some { pattern := .ref 80, string := .str t tk, code := Rx.code2, text := t.cps, kind := 0, groups := 0, pos := 0, lim := t.cps.size } := by
  kernel_rfl
theorem pk75 (P : Params) (S : Setting) (t : Str) (tk : Tok) : peek (Mine.hd.heap_39 P) S (reWholeTarget (.ref 75) (.str t tk)) = some { pattern := .ref 75, string := .str t tk, code := Rx.code1, text := t.cps, kind := 0, groups := 0, pos := 0, lim := t.cps.size } := by
  kernel_rfl
abbrev matchObj (b : Array UInt8) (tk : Tok) (T : Addr) : Obj := { cls := .type "re.Match", data := .fields #[.bytes b tk, .ref 63, rawInt 0, rawInt (b.map (·.toNat)).size, rawInt 1, .ref T] }
abbrev spanObj (e : Nat) : Obj := { cls := .type "tuple", data := .seq #[rawInt 0, rawInt (e + 1 : Nat), rawInt 9, rawInt e] }
/-- a match stands at `a` -/
def MatchAt (h : Heap) (a : Addr) (b : Array UInt8) (tk : Tok) (e : Nat) : Prop :=
  ∃ T, h.get? a = some (matchObj b tk T) ∧ h.get? T = some (spanObj e)
theorem MatchAt.ofNews {h₀ h : Heap} {L : Addr} {news : List (Addr × Obj)} {a T : Addr} {b : Array UInt8} {tk : Tok} {e : Nat} (N : PyProof.Rows.News h₀ L h news) (h1 : (a, matchObj b tk T) ∈ news) (h2 : (T, spanObj e) ∈ news) : MatchAt h a b tk e := ⟨T, (N _ h1).1, (N _ h2).1⟩
theorem MatchAt.keeps {h h' : Heap} {a : Addr} {b : Array UInt8} {tk : Tok} {e : Nat} (x : MatchAt h a b tk e) (k : ∀ b o, h.get? b = some o → h'.get? b = some o) : MatchAt h' a b tk e :=
  let ⟨T, h1, h2⟩ := x; ⟨T, k _ _ h1, k _ _ h2⟩
theorem MatchAt.typeIs {s : Shared} {a : Addr} {b : Array UInt8} {tk : Tok} {e : Nat} (x : MatchAt s.heap a b tk e) : s.TypeIs (.ref a) "re.Match" :=
  let ⟨_, h1, _⟩ := x; ⟨_, h1, rfl⟩
theorem type_of_K {K : Frag} {s : Shared} {a : Addr} {T : String} (X : K.In s.heap) (e : (K.lookup a).map (·.cls) = some (.type T)) : s.TypeIs (.ref a) T := by
  obtain ⟨o, h1, h2⟩ := Option.map_eq_some_iff.mp e
  exact ⟨o, X _ _ h1, h2⟩
section
variable {prog : Program} {w : World} {A : Around} {E : Value → Shared → Prop} {s : Shared} {P : Params}
theorem match_call {b : Array UInt8} {tk : Tok} {N e : Nat} {Q : Value → Shared → Prop}
    (X : (Mine.hd.heap_39 P).In s.heap) (T : FlagText (b.map (·.toNat)) (b.map (·.toNat)).size N e)
    (hQ : ∀ a T h' tk', (∀ b o, s.heap.get? b = some o → h'.get? b = some o) → s.heap.get? a = none → s.heap.get? T = none → a ≠ T → h'.get? a = some (matchObj b tk T) → h'.get? T = some (spanObj e) → Q (.ref a) { s with heap := h', toks := tk' }) :
    wpAny (model prog w) A (call (.builtin "re.Pattern.match") [.ref 63, .bytes b tk]) Q E s := by
  have hT : s.TypeIs (.ref 63) "re.Pattern" := type_of_K X (by kernel_rfl)
  refine wpAny_call (codeAny_call_builtin slot_match.plain entry_match (slot_match.check _ _ _ _ _ _ _ _ hT (args_match _ _) ?_))
  show wpAny _ _ (reTarget "re.Pattern.match" "match" ⟨[.ref 63, .bytes b tk], []⟩ >>= _) _ _ _
  refine wpAny_bind ((Looks.of_peek X (pk63 _ _ _ _)).here ?_)
  have hlim : min (2 ^ 63 - 1 : Int).toNat (b.map (·.toNat)).size = (b.map (·.toNat)).size := by
    have := T.small
    exact Nat.min_eq_right (Nat.le_trans this (by decide))
  rw [hlim, Nat.zero_min]
  obtain ⟨n, m', hn, r, ho, hst, hhd, hmk, hlm, hli⟩ := hit0 T
  unfold reAnswer
  dsimp only
  refine wpAny_bind (wp_hit hn r ho ?_)
  dsimp only
  refine wpAny_bind ?_
  unfold reNewMatch
  rw [hmk, hlm, hli, hst, hhd]
  have hlt : ¬ e < 9 := by have := T.close.1; omega
  dsimp only
  split
  · rename_i hx
    exact absurd hx (by
      show ¬ (((decide (((1 : Nat) : Int) ≤ 1) && decide (e < 9)) || false) = true)
      simp [hlt])
  · show wpAny _ _ (newTuple [rawInt 0, rawInt (e + 1 : Nat), rawInt 9, rawInt e] >>= _) _ _ _
    refine wpAny_bind (wpAny_newObj_type ?_ (by size_fits))
    refine wpAny_newObj_type ?_ (by size_fits)
    refine wpAny_pure ?_
    have hfree : s.heap.get? (s.heap.push { cls := .type "tuple", data := .seq [rawInt 0, rawInt (e + 1 : Nat), rawInt 9, rawInt e].toArray }).objs.size = none := Heap.get?_none_of_le (by rw [Heap.size_push]; omega)
    exact hQ _ _ _ _ (fun b o h => Heap.get?_push_of_some _ (Heap.get?_push_of_some _ h)) hfree (Heap.get?_none_of_le (Nat.le_refl _)) (by rw [Heap.size_push]; exact Nat.succ_ne_self _) (Heap.get?_push_size _ rfl) (Heap.get?_push_of_some _ (Heap.get?_push_size _ rfl))
end
end Rx
end Mine
end
section
open PySem PySem.W PyProof.Rows PySem.Calls PySem.Spec PySem.Builtin.Re
set_option maxHeartbeats 1000000
namespace Mine
namespace Rx
section
variable {prog : Program} {w : World} {A : Around} {E : Value → Shared → Prop} {s : Shared} {P : Params}
theorem truthy_match {a : Addr} {b : Array UInt8} {tk : Tok} {e : Nat} {Q : Bool → Shared → Prop} (M : MatchAt s.heap a b tk e) (h : Q true s) : wpAny (model prog w) A (truthy (.ref a)) Q E s := by
  unfold truthy
  refine wpAny_bind (wpAny_callSpecial?_none (name := Str.ofString "__bool__") M.typeIs noBool_mat ?_)
  exact wpAny_bind (wpAny_specialOf (name := Str.ofString "__len__") M.typeIs noLen_mat (wpAny_pure h))
theorem pk63f (S : Setting) : peek (Mine.hd.heap_39 P) S (fieldsOf (.ref 63)) = some #[.bytes #[46, 42, 70, 76, 65, 71, 83, 32, 92, 40, 40, 63, 80, 60, 102, 108, 97, 103, 115, 62, 91, 94, 92, 41, 93, 42, 41, 92, 41] 328, .int 0 374, .int 1 0, .ref 60, .ref 61, .ref 62, .int 1 0] := by
  kernel_rfl
theorem k60 : (Mine.hd.heap_39 P).lookup 60 = some { cls := .type "dict", data := .dict #[{ hash := PyData.keyHash P (Str.ofString "flags"), key := .str (Str.ofString "flags") 370, val := .int 1 371 }] 1 } := by
  kernel_rfl
theorem pkStr (S : Setting) (x : Str) (t0 : Tok) : peek [] S (asInt? (.str x t0)) = some none := by kernel_rfl
theorem dict60 {t0 : Tok} {Q : Option Value → Shared → Prop} (X : (Mine.hd.heap_39 P).In s.heap) (h : Q (some (.int 1 371)) { s with toks := s.toks + 1 }) : wpAny (model prog w) A (dictGet 60 (.str "flags" t0)) Q E s := by
  unfold dictGet
  refine wpAny_holding (wpAny_bind (wpAny_pyHash_str ?_))
  refine wpAny_bind (KTD.kt_dictFind_strs (s := { s with toks := s.toks + 1 }) (X _ _ k60) rfl (by kernel_rfl) ?_)
  have hfi : Array.findIdx? (fun e => e.key.isStr (Str.ofString "flags")) #[({ hash := PyData.keyHash P (Str.ofString "flags"), key := Value.str (Str.ofString "flags") 370, val := Value.int 1 371 } : DictEntry)] = some 0 := by kernel_rfl
  rw [hfi]
  show wpAny _ _ (dictEntries 60 _ >>= _) _ _ _
  refine wpAny_bind (wpAny_dictEntries (s := { s with toks := s.toks + 1 }) (X _ _ k60) rfl ?_)
  exact wpAny_pure h
theorem group_num {x : ReFound} {t0 : Tok} {Q : Nat → Shared → Prop} (X : (Mine.hd.heap_39 P).In s.heap) (h1 : x.fields.getD 1 .none = .ref 63) (hsz : x.spans.size = 4) (h : Q 1 { s with toks := s.toks + 1 }) :
    wpAny (model prog w) A (reGroupNumber x (.str "flags" t0)) Q E s := by
  unfold reGroupNumber
  rw [h1, hsz]
  refine wpAny_bind ((Looks.of_peek (K := []) (fun a o e => by cases e) (pkStr _ _ _)).here ?_)
  show wpAny _ _ (specialOf (.str "flags" t0) "__index__" >>= _) _ _ _
  refine wpAny_bind (wpAny_specialOf (v := .str "flags" t0) (T := "str") rfl noIndex_str ?_)
  show wpAny _ _ (fieldsOf (.ref 63) >>= _) _ _ _
  refine wpAny_bind ((Looks.of_peek X (pk63f _)).here ?_)
  show wpAny _ _ (dictGet 60 (.str "flags" t0) >>= _) _ _ _
  refine wpAny_bind (dict60 X ?_)
  show wpAny _ _ (asInt? (.int 1 371) >>= _) _ _ _
  refine wpAny_bind (wpAny_pure ?_)
  show wpAny _ _ (pure (1 : Int) >>= _) _ _ _
  refine wpAny_bind (wpAny_pure ?_)
  exact wpAny_pure h
theorem group_text {x : ReFound} {b : Array UInt8} {tk : Tok} {e : Nat} {Q : Value → Shared → Prop} (h0 : x.fields.getD 0 .none = .bytes b tk) (h2 : x.spans.getD 2 (-1) = 9) (h3 : x.spans.getD 3 (-1) = e) (hs : b.size ≤ 10000)
    (h : ∀ u, Q (.bytes (((b.map (·.toNat)).extract 9 e).map (·.toUInt8)) u) { s with toks := s.toks + 1 }) : wpAny (model prog w) A (reGroupText x 1 .none) Q E s := by
  unfold reGroupText
  dsimp only
  rw [show 2 * 1 = 2 from rfl, show 2 + 1 = 3 from rfl, h2, h3, h0]
  rw [if_neg (by simp)]
  have pkb : ∀ S, peek [] S (reTextOf (.bytes b tk)) = some (b.map (·.toNat), 1) := fun S => by kernel_rfl
  refine wpAny_bind ((Looks.of_peek (K := []) (fun a o e => by cases e) (pkb _)).here ?_)
  show wpAny _ _ (mkBytes (((b.map (·.toNat)).extract 9 ((e : Int).toNat)).map (·.toUInt8))) _ _ _
  rw [Int.toNat_natCast]
  unfold mkBytes
  rw [if_neg (by rw [sizeLine_eq, Array.size_map, Array.size_extract, Array.size_map]; omega)]
  exact wpAny_bind (wpAny_fresh (wpAny_pure (h _)))
theorem group_call {a : Addr} {b : Array UInt8} {tk t0 : Tok} {e : Nat} {Q : Value → Shared → Prop} (X : (Mine.hd.heap_39 P).In s.heap) (M : MatchAt s.heap a b tk e)
    (hs : b.size ≤ 10000) (hQ : ∀ tk' u, Q (.bytes (((b.map (·.toNat)).extract 9 e).map (·.toUInt8)) u) { s with toks := tk' }) :
    wpAny (model prog w) A (call (.builtin "re.Match.group") [.ref a, .str "flags" t0]) Q E s := by
  obtain ⟨T, h1, h2⟩ := M
  refine wpAny_call (codeAny_call_builtin slot_group.plain entry_group (slot_group.check _ _ _ _ _ _ _ _ ⟨_, h1, rfl⟩ (args_group _ _) ?_))
  show wpAny _ _ (noKeywords "Match.group" ⟨[.ref a, .str "flags" t0], []⟩ >>= _) _ _ _
  refine wpAny_bind ((Looks.of_peek (K := []) (r := ()) (fun a o e => by cases e) (by kernel_rfl)).here ?_)
  show wpAny _ _ (reFound (.ref a) >>= _) _ _ _
  refine wpAny_bind ?_
  unfold reFound
  refine wpAny_bind (wpAny_bind (wpAny_load h1 (wpAny_pure ?_)))
  show wpAny _ _ (reRawItems (.ref T) >>= _) _ _ _
  unfold reRawItems
  refine wpAny_bind (wpAny_bind (wpAny_bind (wpAny_load h2 (wpAny_pure (wpAny_pure (wpAny_pure ?_))))))
  dsimp only
  refine wpAny_bind (group_num X rfl (by kernel_rfl) ?_)
  refine wpAny_bind (group_text (b := b) (tk := tk) (e := e) rfl (by kernel_rfl) (by kernel_rfl) hs fun u => ?_)
  exact wpAny_pure (hQ _ _)
end
end Rx
end Mine
end
section
open PySem PySem.W PyProof.Rows PySem.Calls PySem.Spec PySem.Builtin PySem.Builtin._codecs
set_option maxHeartbeats 1000000
namespace Mine
namespace En
theorem road {self : Value} {s : Str} : encodeRoad "str.encode" self s (Str.ofString "ascii") none = (do mkBytes (← encodeNarrow "str.encode" asciiCodec none self s)) := by kernel_rfl
theorem range_loop {β : Type} {f : Nat → β → Sem (ForInStep β)} {b b' : β} (h1 : ∀ i, f i b = pure (.yield b')) (h2 : ∀ i, f i b' = pure (.done b')) {n : Nat} (hn : 0 < n) : (forIn [:n] b f : Sem β) = pure b' := by
  rw [Std.Legacy.Range.forIn_eq_forIn_range']
  have hsz : ([:n] : Std.Legacy.Range).size = n := by simp [Std.Legacy.Range.size]
  rw [hsz]
  obtain ⟨m, rfl⟩ : ∃ m, n = m + 1 := ⟨n - 1, by omega⟩
  rw [List.range'_succ, List.forIn_cons, h1]
  show (forIn (List.range' _ m _) b' f : Sem β) = pure b'
  cases m with
  | zero => rfl
  | succ m =>
    rw [List.range'_succ, List.forIn_cons, h2]
    rfl
theorem bytes_foldl (l : List Nat) (acc : Array UInt8) : l.foldl (fun acc y => acc ++ [y.toUInt8].toArray) acc = acc ++ (l.map (·.toUInt8)).toArray := by
  induction l generalizing acc with
  | nil => simp
  | cons x l ih => rw [List.foldl_cons, ih]; simp
section
variable {prog : Program} {w : World} {A : Around} {E : Value → Shared → Prop} {s : Shared} {P : Params}
theorem narrow {M : Model} {self : Value} {t : Str} {Q : Array UInt8 → Shared → Prop} (h : ∀ c ∈ t.cps, c < 128) (h0 : 0 < t.cps.size) (hs : t.cps.size ≤ 10000) (hq : Q (t.cps.map (·.toUInt8)) s) :
    wpAny M A (encodeNarrow "str.encode" asciiCodec none self t) Q E s := by
  have hnone : Array.findIdx? asciiCodec.bad (t.cps.extract 0) = none := by
    rw [Array.findIdx?_eq_none_iff]
    intro x hx
    have := h x (by simpa using hx)
    show decide (x ≥ 128) = false
    simp; omega
  have hx0 : t.cps[0]? = some t.cps[0] := by simp [h0]
  have hb0 : (!asciiCodec.bad t.cps[0]) = true := by
    have := h t.cps[0] (Array.getElem_mem h0)
    show (!decide (t.cps[0] ≥ 128)) = true
    simp; omega
  unfold encodeNarrow
  change wpAny M A (forIn [:t.length] ((0 : Nat), (#[] : Array UInt8), ({} : Faults)) _ >>= _) Q E s
  refine wpAny_bind (wpAny_of_eq (range_loop (b' := (t.cps.size, t.cps.map (·.toUInt8), ({} : Faults))) (fun i => ?_) (fun i => ?_) h0) ?_)
  · have hsz : ¬ ((#[] : Array UInt8).size > sizeLine) := by simp
    dsimp only
    rw [if_neg hsz, hx0]
    dsimp only
    rw [if_pos hb0, hnone]
    have e1 : t.cps.extract = t.cps := by simp
    have e2 : Array.foldl (fun acc y => acc ++ (asciiCodec.bytesOf y).toArray) #[] t.cps = t.cps.map (·.toUInt8) := by
      rw [← Array.foldl_toList]
      show t.cps.toList.foldl (fun acc y => acc ++ [y.toUInt8].toArray) #[] = _
      rw [bytes_foldl]
      apply Array.toList_inj.mp
      simp
    rw [e1, Option.getD_none, e1, e2, Nat.zero_add]
  · have hsz : ¬ ((t.cps.map (·.toUInt8)).size > sizeLine) := by rw [sizeLine_eq, Array.size_map]; omega
    dsimp only
    rw [if_neg hsz]
    have : t.cps[t.cps.size]? = none := by simp
    rw [this]
  · exact wpAny_pure hq
theorem pkSelf {t : Str} {tk t2 : Tok} (S : Setting) : peek [] S (Str.strSelf ⟨[.str t tk, .str "ascii" t2], []⟩) = some (.str t tk, t, [.str "ascii" t2]) := by kernel_rfl
theorem encode_call {t : Str} {tk t2 : Tok} {Q : Value → Shared → Prop} (h : ∀ c ∈ t.cps, c < 128) (h0 : 0 < t.cps.size) (hs : t.cps.size ≤ 10000)
    (hq : ∀ u, Q (.bytes (t.cps.map (·.toUInt8)) u) { s with toks := s.toks + 1 }) :
    wpAny (model prog w) A (call (.builtin "str.encode") [.str t tk, .str "ascii" t2]) Q E s := by
  refine wpAny_call (codeAny_call_builtin F.slot_str_encode.plain F.entry_str_encode (F.slot_str_encode.check _ _ _ _ _ _ _ _ (typeIs_str _ _ _) (F.args_str_encode_2 _ _) ?_))
  show wpAny _ _ (Str.strSelf ⟨[.str t tk, .str "ascii" t2], []⟩ >>= _) _ _ _
  refine wpAny_bind ((Looks.of_peek (K := []) (fun a o e => by cases e) (pkSelf _)).here ?_)
  show wpAny _ _ (Str.bindOptional "str.encode" "encode" 0 ["encoding", "errors"] [.str "ascii" t2] [] >>= _) _ _ _
  refine wpAny_bind ((Looks.of_peek (K := []) (r := [some (.str "ascii" t2), none]) (fun a o e => by cases e) (by kernel_rfl)).here ?_)
  show wpAny _ _ (Str.codecArg "str.encode" "encode" "'encoding'" (some (.str "ascii" t2)) >>= _) _ _ _
  refine wpAny_bind ((Looks.of_peek (K := []) (r := some (Str.ofString "ascii")) (fun a o e => by cases e) (by kernel_rfl)).here ?_)
  show wpAny _ _ (pure none >>= _) _ _ _
  refine wpAny_bind (wpAny_pure ?_)
  show wpAny _ _ (encodeRoad "str.encode" (.str t tk) t (Str.ofString "ascii") none >>= _) _ _ _
  rw [road]
  refine wpAny_bind (wpAny_bind (narrow h h0 hs ?_))
  unfold mkBytes
  rw [if_neg (by rw [sizeLine_eq, Array.size_map]; omega)]
  exact wpAny_bind (wpAny_fresh (wpAny_pure (wpAny_pure (hq _))))
theorem pkBind (S : Setting) : peek [] S (Bytes.bindOptional "bytes.split" "split" ["sep", "maxsplit"] [] []) = some [none, none] := by kernel_rfl
/-- the words of a text of bytes, each once more a list of bytes -/
theorem mapM_new {M : Model} {Q : List Value → Shared → Prop} : ∀ (l : List (List UInt8)) (s : Shared), (∀ w ∈ l, w.length ≤ 10000) → (∀ vs tk, vs.length = l.length → (∀ i, i < l.length → ∃ u, vs[i]? = some (.bytes (l.getD i []).toArray u)) → Q vs { s with toks := tk }) →
    wpAny M A (l.mapM fun w => Bytes.Kind.new .bytes w.toArray) Q E s
  | [], s, _, h => by
    rw [List.mapM_nil]
    exact wpAny_pure (h [] s.toks rfl fun i hi => absurd hi (Nat.not_lt_zero _))
  | x :: l, s, hl, h => by
    rw [List.mapM_cons]
    refine wpAny_bind ?_
    show wpAny M A (mkBytes x.toArray) _ E s
    unfold mkBytes
    rw [if_neg (by have := hl x (.head _); rw [sizeLine_eq, List.size_toArray]; omega)]
    refine wpAny_bind (wpAny_fresh (wpAny_pure ?_))
    refine wpAny_bind (mapM_new l _ (fun w hw => hl w (.tail _ hw)) fun vs tk hv hi => ?_)
    refine wpAny_pure (h _ tk (by simp [hv]) fun i hi' => ?_)
    cases i with
    | zero => exact ⟨_, rfl⟩
    | succ i =>
      obtain ⟨u, hu⟩ := hi i (by simpa using hi')
      exact ⟨u, by simpa using hu⟩
theorem split_call {b : Array UInt8} {tk : Tok} {Q : Value → Shared → Prop} {ws : List (List UInt8)} (hw : Bytes.words (b.size + 1) (b.size + 1) b.toList = ws) (hl : ∀ w ∈ ws, w.length ≤ 10000) (hn : ws.length ≤ 10000)
    (hsp : b = #[] ∨ b.any Bytes.isSpace = true)
    (hq : ∀ vs h' tk' l, (∀ b o, s.heap.get? b = some o → h'.get? b = some o) → s.heap.get? l = none → h'.get? l = some { cls := .type "list", data := .seq (List.toArray vs) } → vs.length = ws.length → (∀ i, i < ws.length → ∃ u, vs[i]? = some (.bytes (ws.getD i []).toArray u)) → Q (.ref l) { s with heap := h', toks := tk' }) :
    wpAny (model prog w) A (call (.builtin "bytes.split") [.bytes b tk]) Q E s := by
  refine wpAny_call (codeAny_call_builtin Rx.slot_bsplit.plain Rx.entry_bsplit (Rx.slot_bsplit.check _ _ _ _ _ _ _ _ rfl (Rx.args_bsplit _) ?_))
  show wpAny _ _ (Bytes.bindOptional "bytes.split" "split" ["sep", "maxsplit"] [] [] >>= _) _ _ _
  refine wpAny_bind ((Looks.of_peek (K := []) (fun a o e => by cases e) (pkBind _)).here ?_)
  show wpAny _ _ (pure (-1 : Int) >>= _) _ _ _
  refine wpAny_bind (wpAny_pure ?_)
  show wpAny _ _ (Bytes.payload (.bytes b tk) >>= _) _ _ _
  refine wpAny_bind (wpAny_pure ?_)
  show wpAny _ _ (rule _ >>= fun _ => _) _ _ _
  refine wpAny_bind (wpAny_rule ?_)
  have hno : ¬ ((decide ((if (-1 : Int) < 0 then b.size + 1 else (-1 : Int).toNat) > 0) && !b.isEmpty && !b.any Bytes.isSpace) = true) := by
    rcases hsp with rfl | h
    · simp
    · rw [h]; simp
  rw [if_neg hno]
  show wpAny _ _ ((Bytes.words (b.size + 1) (b.size + 1) b.toList).mapM (fun w => Bytes.Kind.new .bytes w.toArray) >>= _) _ _ _
  rw [hw]
  refine wpAny_bind (mapM_new ws _ hl fun vs tk' hv hi => ?_)
  refine wpAny_bind (wpAny_newObj_type ?_ (by show vs.toArray.size ≤ sizeLine; rw [List.size_toArray, hv, sizeLine_eq]; omega))
  exact wpAny_pure (hq vs _ tk' _ (fun b o h => Heap.get?_push_of_some _ h) (Heap.get?_none_of_le (Nat.le_refl _)) (Heap.get?_push_size _ rfl) hv hi)
end
end En
end Mine
end
section
open PySem PySem.W PyProof.Rows PySem.Calls PySem.Spec
set_option maxHeartbeats 8000000
namespace Mine
/-- an end of a def's walk: opaque to the walk -/
def Ends (P : Prop) : Prop := P
section
variable {M : Model} {A : Around} {E : Value → Shared → Prop} {s : Shared} {P : Params} {pl : Sem Bool}
theorem getm_80 {Q : Value × List Value → Shared → Prop} (X : (Mine.hd.heap_39 P).In s.heap) (h : Q (.builtin "re.Pattern.sub", [.ref 80]) s) : wpAny M A (getMethod (.ref 80) "sub" pl) Q E s := by
  have e : ∃ o, (Mine.hd.heap_39 P).lookup 80 = some o ∧ o.cls = .type "re.Pattern" ∧ o.dict = none := ⟨_, by k_is, rfl, rfl⟩
  obtain ⟨o, h1, h2, h3⟩ := e
  exact getMethod_builtin ⟨o, X _ _ h1, h2⟩ Rx.plainAttrs_pat Rx.slot_sub Rx.type_sub (fun a e => by cases e; exact ⟨o, X _ _ h1, h3⟩) h
theorem getm_75 {Q : Value × List Value → Shared → Prop} (X : (Mine.hd.heap_39 P).In s.heap) (h : Q (.builtin "re.Pattern.sub", [.ref 75]) s) : wpAny M A (getMethod (.ref 75) "sub" pl) Q E s := by
  have e : ∃ o, (Mine.hd.heap_39 P).lookup 75 = some o ∧ o.cls = .type "re.Pattern" ∧ o.dict = none := ⟨_, by k_is, rfl, rfl⟩
  obtain ⟨o, h1, h2, h3⟩ := e
  exact getMethod_builtin ⟨o, X _ _ h1, h2⟩ Rx.plainAttrs_pat Rx.slot_sub Rx.type_sub (fun a e => by cases e; exact ⟨o, X _ _ h1, h3⟩) h
theorem getm_63 {Q : Value × List Value → Shared → Prop} (X : (Mine.hd.heap_39 P).In s.heap) (h : Q (.builtin "re.Pattern.match", [.ref 63]) s) : wpAny M A (getMethod (.ref 63) "match" pl) Q E s := by
  have e : ∃ o, (Mine.hd.heap_39 P).lookup 63 = some o ∧ o.cls = .type "re.Pattern" ∧ o.dict = none := ⟨_, by k_is, rfl, rfl⟩
  obtain ⟨o, h1, h2, h3⟩ := e
  exact getMethod_builtin ⟨o, X _ _ h1, h2⟩ Rx.plainAttrs_pat Rx.slot_match Rx.type_match (fun a e => by cases e; exact ⟨o, X _ _ h1, h3⟩) h
theorem getm_mo {a : Addr} {b : Array UInt8} {tk : Tok} {e : Nat} {Q : Value × List Value → Shared → Prop} (X : Rx.MatchAt s.heap a b tk e) (h : Q (.builtin "re.Match.group", [.ref a]) s) : wpAny M A (getMethod (.ref a) "group" pl) Q E s := by
  refine getMethod_builtin X.typeIs Rx.plainAttrs_mat Rx.slot_group Rx.type_group (fun a' e => ?_) h
  cases e
  obtain ⟨T, h1, h2⟩ := X
  exact ⟨_, h1, rfl⟩
theorem getm_by {b : Array UInt8} {tk : Tok} {Q : Value × List Value → Shared → Prop} (h : Q (.builtin "bytes.split", [.bytes b tk]) s) : wpAny M A (getMethod (.bytes b tk) "split" pl) Q E s :=
  getMethod_builtin rfl Rx.plainAttrs_byt Rx.slot_bsplit Rx.type_bsplit (fun a' e => by cases e) h
theorem getm_st {t : Str} {tk : Tok} {Q : Value × List Value → Shared → Prop} (h : Q (.builtin "str.encode", [.str t tk]) s) : wpAny M A (getMethod (.str t tk) "encode" pl) Q E s :=
  getMethod_builtin (typeIs_str _ _ _) F.plainAttrs_str F.slot_str_encode F.type_str_encode (fun a' e => by cases e) h
end
def quoted (t : Str) : Str := ⟨(Rx.dots true (Rx.crlf false t.cps.toList)).toArray⟩
theorem crlf_le : ∀ (b : Bool) (l : List Nat), (Rx.crlf b l).length ≤ 2 * l.length
  | _, [] => by simp [Rx.crlf]
  | b, c :: r => by
    have h1 := crlf_le false r
    have h2 := crlf_le true r
    simp only [Rx.crlf]
    repeat' split
    all_goals simp only [List.length_cons]
    all_goals omega
theorem dots_le : ∀ (b : Bool) (l : List Nat), (Rx.dots b l).length ≤ 2 * l.length
  | _, [] => by simp [Rx.dots]
  | b, c :: r => by
    have h1 := dots_le false r
    have h2 := dots_le (c == 10) r
    simp only [Rx.dots]
    split
    all_goals simp only [List.length_cons]
    all_goals omega
section
variable {prog : Program} {w : World} {A : Around} {E : Value → Shared → Prop} {s : Shared} {P : Params}
theorem sub80 {t repl : Str} {tk rt : Tok} {Q : Value → Shared → Prop} (X : (Mine.hd.heap_39 P).In s.heap) (hr : repl = ⟨#[13, 10]⟩) (hs : t.cps.size ≤ 10000)
    (hQ : ∀ u h' tk', (∀ b o, s.heap.get? b = some o → h'.get? b = some o) → Q (.str ⟨(Rx.crlf false t.cps.toList).toArray⟩ u) { s with heap := h', toks := tk' }) :
    wpAny (model prog w) A (call (.builtin "re.Pattern.sub") [.ref 80, .str repl rt, .str t tk]) Q E s := by
  subst hr
  refine Rx.sub_call (K := Mine.hd.heap_39 P) (rest := fun p => Rx.crlf false (t.cps.toList.drop p)) (fun S => Rx.pk80 _ _ _ _) (by decide +kernel) X (Rx.type_of_K X (by kernel_rfl)) hs (Rx.spec2 t.cps) ?_ fun u h' tk' hk => ?_
  · have := crlf_le false t.cps.toList
    simp only [List.drop_zero]
    have hl : t.cps.toList.length = t.cps.size := Array.length_toList
    omega
  · simpa using hQ u h' tk' hk
theorem sub75 {t repl : Str} {tk rt : Tok} {Q : Value → Shared → Prop} (X : (Mine.hd.heap_39 P).In s.heap) (hr : repl = ⟨#[46, 46]⟩) (hs : t.cps.size ≤ 10000)
    (hQ : ∀ u h' tk', (∀ b o, s.heap.get? b = some o → h'.get? b = some o) → Q (.str ⟨(Rx.dots true t.cps.toList).toArray⟩ u) { s with heap := h', toks := tk' }) :
    wpAny (model prog w) A (call (.builtin "re.Pattern.sub") [.ref 75, .str repl rt, .str t tk]) Q E s := by
  subst hr
  refine Rx.sub_call (K := Mine.hd.heap_39 P) (rest := fun p => Rx.dots (Rx.bol t.cps p) (t.cps.toList.drop p)) (fun S => Rx.pk75 _ _ _ _) (by decide +kernel) X (Rx.type_of_K X (by kernel_rfl)) hs (Rx.spec1 t.cps hs) ?_ fun u h' tk' hk => ?_
  · have := dots_le (Rx.bol t.cps 0) t.cps.toList
    simp only [List.drop_zero]
    have hl : t.cps.toList.length = t.cps.size := Array.length_toList
    omega
  · simpa [Rx.bol] using hQ u h' tk' hk
end
end Mine
end
section
open PySem PySem.W PyProof.Rows PySem.Calls PySem.Spec
set_option maxHeartbeats 1000000
namespace Mine
abbrev rngObj (a left : Int) : Obj := { cls := .type "range_iterator", dict := none, data := .fields #[rawInt a, rawInt left, rawInt 1], slots := #[] }
/-- a turn's end: the frame, the iterator kept, and the word -/
def TurnEnd (h₀ : Heap) (L : Addr) (I : Addr) (o : Obj) (J : (Str → Option Value) → List (Addr × Obj) → Prop) (s : Shared) (f : Flow) (s₂ : Shared) : Prop :=
  f = .next ∧ ∃ h' tk m₂ news₂, s₂ = { s with heap := h', toks := tk } ∧ Fr h₀ L h' m₂ ∧ News h₀ L h' ((I, o) :: news₂) ∧ (∀ p ∈ news₂, p.1 ≠ I) ∧ J m₂ news₂
theorem TurnEnd.intro {h₀ : Heap} {L : Addr} {I : Addr} {o : Obj} {J : (Str → Option Value) → List (Addr × Obj) → Prop} {s : Shared} {h' : Heap} {tk : Nat} {m₂ : Str → Option Value} {news₂ : List (Addr × Obj)}
    (F : Fr h₀ L h' m₂) (N : News h₀ L h' ((I, o) :: news₂)) (hn : ∀ p ∈ news₂, p.1 ≠ I) (hJ : J m₂ news₂) : TurnEnd h₀ L I o J s .next { s with heap := h', toks := tk } :=
  ⟨rfl, _, _, _, _, rfl, F, N, hn, hJ⟩

section
variable {prog : Program} {w : World} {A : Around} {E : Value → Shared → Prop} {s : Shared} {env : Env} {h₀ : Heap} {x : Str} {body : List Stmt} {Q : Flow → Shared → Prop}
theorem rng_loop {r : Addr} {t u v : Tok} {n : Nat} {m₀ : Str → Option Value} {news : List (Addr × Obj)} (J : Nat → (Str → Option Value) → List (Addr × Obj) → Prop)
    (hh : A.handled = none) (hr : IsRange s.heap r 0 n 1 t u v) (hn : n ≤ 1000) (F : Fr h₀ env.locals s.heap m₀) (N : News h₀ env.locals s.heap news) (hj : J 0 m₀ news)
    (turn : ∀ i t m₁ news₁ I h tk, i < n → J i m₁ news₁ → (∀ p ∈ news₁, p.1 ≠ I) → Fr h₀ env.locals h (fun y => if y = x then some (.int (i : Int) t) else m₁ y) →
      News h₀ env.locals h ((I, rngObj ((i : Int) + 1) ((n : Int) - ((i : Int) + 1))) :: news₁) →
      wpAny (model prog w) A (execs body env) (TurnEnd h₀ env.locals I (rngObj ((i : Int) + 1) ((n : Int) - ((i : Int) + 1))) (J (i + 1)) { s with heap := h, toks := tk }) E { s with heap := h, toks := tk })
    (done : ∀ m₁ news₁ h tk, J n m₁ news₁ → Fr h₀ env.locals h m₁ → News h₀ env.locals h news₁ → Q .next { s with heap := h, toks := tk }) :
    wpAny (model prog w) A (pyIter (.ref r)) (fun it s₂ => LoopAtV prog w A h₀ env x body Q E it s₂) E s := by
  have hsz : Builtin.Range.rangeSize 0 (n : Int) 1 = n := by
    unfold Builtin.Range.rangeSize
    simp
    try omega
  have hsmall : Builtin.Range.small 0 (n : Int) 1 = true := by
    unfold Builtin.Range.small
    rw [hsz]
    unfold Builtin.Range.rangeFitsLong
    simp
    omega
  refine wpAny_pyIter_range hr hsmall ?_
  rw [hsz]
  have W := Walks.range (prog := prog) (w := w) hh s.heap.objs.size 0 1 n
  have hfree : s.heap.get? s.heap.objs.size = none := Heap.get?_none_of_le (Nat.le_refl _)
  have hnL : env.locals ≠ s.heap.objs.size := fun q => by
    have := F.ns.lt
    rw [q] at this
    exact Nat.lt_irrefl _ this
  have hfree₀ : h₀.get? s.heap.objs.size = none := by
    cases e : h₀.get? s.heap.objs.size with
    | none => rfl
    | some o => rw [F.keep _ _ e] at hfree; cases hfree
  have ne_of : ∀ {news₁ : List (Addr × Obj)}, (∀ p ∈ news₁, p.1 ∉ [s.heap.objs.size]) → ∀ p ∈ news₁, p.1 ≠ s.heap.objs.size := fun h p hp q => h p hp (by rw [q]; exact .head _)
  refine ⟨_, _, _, n, _, _, m₀, news, J, rfl, W, ?_, ?_, ?_, ?_, F.push _, (fun p hp => ⟨Heap.get?_push_of_some _ (N p hp).1, (N p hp).2⟩), hj, ?_, ?_⟩
  · intro hm; exact hnL (List.mem_singleton.mp hm)
  · intro b hb; rw [List.mem_singleton.mp hb]; exact hfree₀
  · intro p hp hI
    have := (N p hp).1
    rw [List.mem_singleton.mp hI, hfree] at this; cases this
  · show IsRangeIter _ _ _ _ _
    simpa using Heap.get?_push_size _ rfl
  · rintro i v m₁ news₁ s₁ own ⟨hh', tk', rfl⟩ hin ⟨t', rfl⟩ hJ hoff hfp hget hown hst F₁ N₁
    have hst' : hh'.get? s.heap.objs.size = some (rngObj ((i : Int) + 1) ((n : Int) - ((i : Int) + 1))) := by
      have : IsRangeIter hh' s.heap.objs.size (0 + ((i + 1 : Nat) : Int) * 1) ((n : Int) - ((i + 1 : Nat) : Int)) 1 := hst
      simpa using this
    have e0 : (0 + (i : Int) * 1) = i := by omega
    rw [e0] at F₁
    have N₂ : News h₀ env.locals hh' ((s.heap.objs.size, rngObj ((i : Int) + 1) ((n : Int) - ((i : Int) + 1))) :: news₁) := fun p hp => by
      rcases List.mem_cons.mp hp with rfl | hp
      · exact ⟨hst', Ne.symm hnL, hfree₀⟩
      · exact N₁ p (List.mem_append_right _ hp)
    refine wpAny_mono (turn i t' m₁ news₁ s.heap.objs.size hh' tk' hin hJ (ne_of hoff) F₁ N₂) (fun f s₂ p => ?_) fun _ _ e => e
    obtain ⟨rfl, h', tk, m₂, news₂, rfl, F', N', hn', hJ'⟩ := p
    refine .next (.intro F' (fun p hp => ?_) (fun p hp => by simpa using hn' p hp) hJ')
    rcases List.mem_append.mp hp with hp | hp
    · have h1 := List.mem_singleton.mp (hfp p hp)
      have h2 := hget p hp
      have h3 : p.2 = rngObj ((i : Int) + 1) ((n : Int) - ((i : Int) + 1)) := by
        rw [h1] at h2
        exact (Option.some.inj (h2.symm.trans hst'))
      have : p = (s.heap.objs.size, rngObj ((i : Int) + 1) ((n : Int) - ((i : Int) + 1))) := by rw [← h1, ← h3]
      rw [this]
      exact N' _ (.head _)
    · exact N' p (.tail _ hp)
  · rintro h' tk m' news' F' N' _ hJ
    exact done m' news' h' tk hJ F' N'
end
end Mine
end
section
open PySem PySem.W PyProof.Rows PySem.Calls PySem.Spec
namespace Mine
def endingL (d : Int) : List Nat := if d.fdiv 6 = 0 then [10] else if d.fdiv 6 = 1 then [13, 10] else [13]
def pieceL (k : Nat) (d : Int) : List Nat := endingL d ++ List.replicate (d.fmod 2).toNat 46 ++ List.replicate (1 + (d.fdiv 2).fmod 3).toNat (97 + k)
abbrev hasB (z : Int) (k : Nat) : Prop := (z.fdiv (2 ^ k)).fmod 2 = 1
def replyUp (z : Int) (ds : List Int) : Nat → List Nat
  | 0 => [42, 32, 70, 76, 65, 71, 83, 32, 40]
  | k + 1 => replyUp z ds k ++ if hasB z k then pieceL k (ds.getD k 0) else []
theorem mul_rep (c : Nat) (n : Int) : Txt.mul ⟨#[c]⟩ n = ⟨(List.replicate n.toNat c).toArray⟩ := by
  unfold Txt.mul
  by_cases h : n < 1
  · rw [if_pos h, show n.toNat = 0 by omega]; rfl
  · rw [if_neg h]
    by_cases h1 : n = 1
    · subst h1; rfl
    · have hb : ((n == 1) || (Str.mk #[c]).length == 0) = false := by
        have : (n == 1) = false := by simpa using h1
        rw [this]; rfl
      rw [hb]
      simp only [Bool.false_eq_true, if_false]
      congr 1
      apply Array.toList_inj.mp
      have key : ∀ (m : Nat) (acc : Array Nat), ((List.replicate m (#[c] : Array Nat)).foldl (· ++ ·) acc).toList = acc.toList ++ List.replicate m c := by
        intro m
        induction m with
        | zero => intro acc; simp
        | succ m ih => intro acc; rw [List.replicate_succ, List.foldl_cons, ih]; simp [List.replicate_succ]
      rw [key]
      simp
theorem turn_text {R : List Nat} {e y : Str} {a b : Int} {c : Nat} (hy : y = ⟨#[c]⟩) :
    (Str.mk R.toArray ++ e) ++ Txt.mul (Str.ofString ".") a ++ Txt.mul y b = Str.mk (R ++ (e.cps.toList ++ List.replicate a.toNat 46 ++ List.replicate b.toNat c)).toArray := by
  subst hy
  rw [show Str.ofString "." = ⟨#[46]⟩ by decide +kernel, mul_rep, mul_rep]
  apply Str.ext'
  apply Array.toList_inj.mp
  simp [Str.cps_append]
theorem endingL_le (d : Int) : (endingL d).length ≤ 2 := by
  unfold endingL
  by_cases h : d.fdiv 6 = 0
  · rw [if_pos h]; decide
  · rw [if_neg h]
    by_cases h' : d.fdiv 6 = 1
    · rw [if_pos h']; decide
    · rw [if_neg h']; decide
theorem pieceL_le (k : Nat) (d : Int) : (pieceL k d).length ≤ 6 := by
  have h1 := endingL_le d
  have h2 := Int.fmod_lt_of_pos d (b := 2) (by decide)
  have h3 := Int.fmod_lt_of_pos (d.fdiv 2) (b := 3) (by decide)
  unfold pieceL
  simp only [List.length_append, List.length_replicate]
  omega
theorem replyUp_le (z : Int) (ds : List Int) : ∀ k, (replyUp z ds k).length ≤ 9 + 6 * k
  | 0 => Nat.le_refl 9
  | k + 1 => by
    have h1 := replyUp_le z ds k
    have h2 := pieceL_le k (ds.getD k 0)
    unfold replyUp
    split
    · rw [List.length_append]; omega
    · rw [List.length_append]; simp; omega
theorem replyUp_len (z : Int) (ds : List Int) {k : Nat} (h : k ≤ 4) : (Str.mk (replyUp z ds k).toArray).length ≤ 500 := by
  show (replyUp z ds k).toArray.size ≤ 500
  rw [List.size_toArray]
  exact Nat.le_trans (replyUp_le z ds k) (by omega)
theorem mulDot_le (d : Int) : (Txt.mul (Str.ofString ".") (d.fmod 2)).length ≤ 2 := len_mul_leN (L := 1) (N := 2) (by decide +kernel) (by have := Int.fmod_lt_of_pos d (b := 2) (by decide); omega)
theorem mulItem_le (x : Str) (i d : Int) : (Txt.mul (Txt.item x i) (1 + (d.fdiv 2).fmod 3)).length ≤ 3 := len_mul_leN (L := 1) (N := 3) (Nat.le_refl 1) (by have := Int.fmod_lt_of_pos (d.fdiv 2) (b := 3) (by decide); omega)
theorem len3 {R e a b : Str} (h0 : R.length ≤ 500) (h1 : e.length ≤ 2) (h2 : a.length ≤ 2) (h3 : b.length ≤ 3) : (R ++ e ++ a).length + b.length ≤ sizeLine := by
  simp only [Str.length_append]; rw [sizeLine_eq]; omega
theorem len2 {R e a : Str} (h0 : R.length ≤ 500) (h1 : e.length ≤ 2) (h2 : a.length ≤ 2) : (R ++ e).length + a.length ≤ sizeLine := by
  simp only [Str.length_append]; rw [sizeLine_eq]; omega
theorem len1 {R e : Str} (h0 : R.length ≤ 500) (h1 : e.length ≤ 2) : R.length + e.length ≤ sizeLine := by
  rw [sizeLine_eq]; omega
theorem le_nl : (Str.ofString "\n").length ≤ 2 := by decide +kernel
theorem le_crnl : (Str.ofString "\r\n").length ≤ 2 := by decide +kernel
theorem le_cr : (Str.ofString "\r").length ≤ 2 := by decide +kernel
theorem le_par : (Str.ofString ")").length ≤ 2 := by decide +kernel
theorem turn_yes {z : Int} {ds : List Int} {k : Nat} {e y : Str} (hy : y = ⟨#[97 + k]⟩) (hb : hasB z k) (he : endingL (ds.getD k 0) = e.cps.toList) :
    (Str.mk (replyUp z ds k).toArray ++ e) ++ Txt.mul (Str.ofString ".") ((ds.getD k 0).fmod 2) ++ Txt.mul y (1 + ((ds.getD k 0).fdiv 2).fmod 3) = Str.mk (replyUp z ds (k + 1)).toArray := by
  rw [turn_text hy]
  congr 2
  show _ = replyUp z ds k ++ (if hasB z k then pieceL k (ds.getD k 0) else [])
  rw [if_pos hb, ← he]
  rfl
theorem turn_no {z : Int} {ds : List Int} {k : Nat} (hb : ¬ hasB z k) : replyUp z ds (k + 1) = replyUp z ds k := by
  show replyUp z ds k ++ (if hasB z k then pieceL k (ds.getD k 0) else []) = _
  rw [if_neg hb, List.append_nil]
theorem end0 {d : Int} (h : d.fdiv 6 = 0) : endingL d = (Str.ofString "\n").cps.toList := by
  unfold endingL; rw [if_pos h]; decide +kernel
theorem end1 {d : Int} (h : d.fdiv 6 = 1) : endingL d = (Str.ofString "\r\n").cps.toList := by
  unfold endingL; rw [if_neg (by omega), if_pos h]; decide +kernel
theorem end2 {d : Int} (h : d.fdiv 6 = 2) : endingL d = (Str.ofString "\r").cps.toList := by
  unfold endingL; rw [if_neg (by omega), if_neg (by omega)]; decide +kernel
theorem par_eq (R : List Nat) : Str.mk R.toArray ++ Str.ofString ")" = Str.mk (R ++ [41]).toArray := by
  rw [show Str.ofString ")" = ⟨#[41]⟩ by decide +kernel]
  apply Str.ext'
  apply Array.toList_inj.mp
  simp [Str.cps_append]
theorem fdiv6_lo {d : Int} (h : 0 ≤ d) : 0 ≤ d.fdiv 6 := by rw [Int.fdiv_eq_ediv_of_nonneg _ (by decide)]; omega
theorem fdiv6_hi {d : Int} (h : d < 18) : d.fdiv 6 < 3 := by rw [Int.fdiv_eq_ediv_of_nonneg _ (by decide)]; omega
end Mine
end
section
open PySem PySem.W PyProof.Rows PySem.Calls PySem.Spec
set_option maxHeartbeats 1000000
namespace Mine
section
variable {prog : Program} {w : World} {A : Around} {h₀ : Heap} {L : Addr} {m : Str → Option Value} {env : Env} {ct elt : Expr} {x : Str} {scope : Scope} {cl : List (Str × Addr)} {s : Shared} {S : List (Addr × Obj) → Prop} {P : Nat → Value → Prop} {Fin : List Value → List (Addr × Obj) → Prop} {news : List (Addr × Obj)}
theorem restI {n : Nat} (J : Nat → List Value → List (Addr × Obj) → Prop) (j0 : J 0 [] news)
    (turn : ∀ i ys nw v I oI C oC D m₂ h tk (E' : Value → Shared → Prop), i < n → P i v → J i ys nw → LCg.NsObj oC m₂ → m₂ x = some v → Fr h₀ L h m → News h₀ L h ((I, oI) :: (C, oC) :: (D, LCg.lst ys) :: nw) → LCg.Off3 I C D nw → ((@Ne Nat I C) ∧ (@Ne Nat I D) ∧ (@Ne Nat C D)) →
      wpAny (model prog w) A (eval elt (compEnvC scope cl C env)) (LCg.CompEnd h₀ L m { s with heap := h, toks := tk } I oI C oC D (LCg.lst ys) S (fun y nw' => J (i + 1) (ys ++ [y]) nw')) E' { s with heap := h, toks := tk })
    (fin : ∀ ys nw, J n ys nw → Fin ys nw) : LCg.CompRest prog w A h₀ L m env elt x scope cl s S P Fin n 0 [] news := by
  have key : ∀ (j i : Nat) (ys : List Value) (nw : List (Addr × Obj)), i + j = n → J i ys nw → LCg.CompRest prog w A h₀ L m env elt x scope cl s S P Fin j i ys nw := by
    intro j
    induction j with
    | zero =>
      intro i ys nw hi hy
      have e : i = n := by omega
      subst e
      exact LCg.CompRest.zero (fin ys nw hy)
    | succ j ih =>
      intro i ys nw hi hy
      refine LCg.CompRest.succ ?_
      intro v I oI C oC D m₂ h tk E' hv hC hx F N off ne
      refine wpAny_mono (turn i ys nw v I oI C oC D m₂ h tk E' (by omega) hv hy hC hx F N off ne) (fun y s₂ hq => ?_) fun _ _ e => e
      obtain ⟨h', tk', nw', e, F', N', off', hS, hJ⟩ := hq
      exact ⟨h', tk', nw', e, F', N', off', hS, ih (i + 1) _ _ (by omega) hJ⟩
  exact key n 0 [] news (by omega) j0

theorem restT {n : Nat} (J : Nat → List Value → List (Addr × Obj) → Prop) (j0 : J 0 [] news)
    (turn : ∀ i ys nw v I oI C oC D m₂ h tk (E' : Value → Shared → Prop), i < n → P i v → J i ys nw → LCg.NsObj oC m₂ → m₂ x = some v → Fr h₀ L h m → News h₀ L h ((I, oI) :: (C, oC) :: (D, LCg.lst ys) :: nw) → LCg.Off3 I C D nw → ((@Ne Nat I C) ∧ (@Ne Nat I D) ∧ (@Ne Nat C D)) →
      wpAny (model prog w) A (isTrue ct (compEnvC scope cl C env) (eval ct (compEnvC scope cl C env))) (fun ok s' => if ok = true then
        wpAny (model prog w) A (eval elt (compEnvC scope cl C env)) (LCg.CompEnd h₀ L m { s with heap := h, toks := tk } I oI C oC D (LCg.lst ys) S (fun y nw' => J (i + 1) (ys ++ [y]) nw')) E' s'
        else LCg.CompEnd h₀ L m { s with heap := h, toks := tk } I oI C oC D (LCg.lst ys) S (fun _ nw' => J (i + 1) ys nw') Value.none s') E' { s with heap := h, toks := tk })
    (fin : ∀ ys nw, J n ys nw → Fin ys nw) : LCt.CompRestT prog w A h₀ L m env ct elt x scope cl s S P Fin n 0 [] news := by
  have key : ∀ (j i : Nat) (ys : List Value) (nw : List (Addr × Obj)), i + j = n → J i ys nw → LCt.CompRestT prog w A h₀ L m env ct elt x scope cl s S P Fin j i ys nw := by
    intro j
    induction j with
    | zero =>
      intro i ys nw hi hy
      have e : i = n := by omega
      subst e
      exact LCt.CompRestT.zero (fin ys nw hy)
    | succ j ih =>
      intro i ys nw hi hy
      refine LCt.CompRestT.succ ?_
      intro v I oI C oC D m₂ h tk E' hv hC hx F N off ne
      refine wpAny_mono (turn i ys nw v I oI C oC D m₂ h tk E' (by omega) hv hy hC hx F N off ne) (fun ok s₂ hq => ?_) fun _ _ e => e
      cases ok with
      | true =>
        rw [if_pos rfl] at hq ⊢
        refine wpAny_mono hq (fun y s₃ hq => ?_) fun _ _ e => e
        obtain ⟨h', tk', nw', e, F', N', off', hS, hJ⟩ := hq
        exact ⟨h', tk', nw', e, F', N', off', hS, ih (i + 1) _ _ (by omega) hJ⟩
      | false =>
        rw [if_neg (by decide)] at hq ⊢
        obtain ⟨h', tk', nw', e, F', N', off', hS, hJ⟩ := hq
        exact ⟨h', tk', nw', e, F', N', off', hS, ih (i + 1) _ _ (by omega) hJ⟩
  exact key n 0 [] news (by omega) j0
end
end Mine
end
section
open PySem PySem.W PyProof.Rows PySem.Calls PySem.Spec
open Mine
theorem Mine.fill_one : PySem.Challenge.rw_sr0016_01 = PySem.Challenge.rw_sr0016_01 ∧ Mine.hd.heap_39 = Mine.hd.heap_39 := by
  k_fill
  exact ⟨rfl, rfl⟩
local macro_rules | `(tactic| walk_at "m_entered") => `(tactic| ((case k1 => assumption); (case k2 => exact Top.nolimit (by assumption)); (case k8 => (dsimp only [AA]; omega)); (case k6 => k_is); (case k7 => k_is); (case k9 => first | exact BindsTo.of_eq rfl | exact binds_K (by k_in) rfl (by k_is) rfl rfl rfl | exact binds_peek (Frag.In.keeps (by assumption) (by first | assumption | exact fun _ _ e => e)) (fun _ => rfl)); (case kB => exact locs rfl); (case c5 => decide); (case c2 => exact rfl); (case c3 => exact rfl); (case c4 => exact rfl)))
local macro_rules | `(tactic| walk_at "m_to_while") => `(tactic| repeat' (first | (k_unfold; (try dsimp only)) | ((fail_if_success (with_reducible show wpAny _ _ (exec (Stmt.While _ _ _ _) _) _ _ _)); first | walk1 | (dsimp only; walk1))))
local macro_rules | `(tactic| walk_at "m_steps") => `(tactic| repeat' (first | (k_unfold; (try dsimp only)) | ((fail_if_success (with_reducible show TurnEnd _ _ _ _ _ _ _ _)); (fail_if_success (with_reducible show Ends _)); (fail_if_success (with_reducible show LCg.CompEnd _ _ _ _ _ _ _ _ _ _ _ _ _ _)); (fail_if_success (with_reducible show LCg.CompSrc _ _ _ _ _ _ _ _ _ _ _ _ _ _)); (fail_if_success (with_reducible show LCt.CompSrcT _ _ _ _ _ _ _ _ _ _ _ _ _ _ _)); first | walk1 | (dsimp only; walk1))))
local macro_rules | `(tactic| walk_at "eval Name") => `(tactic| (k_here; k_dflt (refine' ld ?k1 ?k2 ?_; (case k1 => k_asm); (case k2 => assumption); k_whole)))
local macro_rules | `(tactic| walk_at "storeName") => `(tactic| (k_here; k_dflt (refine' storeX_L ?F ?N ?_ ?a ?b; (case a => rfl); (case b => rfl); (case F => k_asm); (case N => k_asm); k_whole; intro h' F' N'; (try k_sweep))))
local macro_rules | `(tactic| walk_at "m_to_for") => `(tactic| repeat' (first | (k_unfold; (try dsimp only)) | ((fail_if_success (with_reducible show wpAny _ _ (exec (Stmt.For _ _ _ _ _) _) _ _ _)); first | walk1 | (dsimp only; walk1))))
local macro_rules | `(tactic| walk_at "m_to_iter") => `(tactic| repeat' (first | (k_unfold; (try dsimp only)) | ((fail_if_success (with_reducible show wpAny _ _ (pyIter _) _ _ _)); first | walk1 | (dsimp only; walk1))))
local macro_rules | `(tactic| walk_at "m_enteredC") => `(tactic| ((case k1 => assumption); (case k2 => exact Top.nolimit (by assumption)); (case k8 => (dsimp only [AA]; omega)); (case k6 => k_is); (case k7 => k_is); (case k9 => first | exact BindsTo.of_eq rfl | exact binds_K (by k_in) rfl (by k_is) rfl rfl rfl | exact binds_peek (Frag.In.keeps (by assumption) (by first | assumption | exact fun _ _ e => e)) (fun _ => rfl)); (case c2 => exact rfl); (case c3 => exact rfl); (case c4 => exact rfl)))
local macro_rules | `(tactic| walk_at "m_all") => `(tactic| repeat' (first | (k_unfold; (try dsimp only)) | ((fail_if_success (with_reducible show Ends _)); first | walk1 | (dsimp only; walk1))))
local macro_rules | `(tactic| walk_at "eval Name") => `(tactic| (k_here; (with_reducible show wpAny _ _ (eval (Expr.Name _ _) (envOfC _ _ _ _ _)) _ _ _); k_dflt (refine' ldLoc ?k1 ?k2 ?_; (case k1 => k_asm); (case k2 => assumption); k_whole)))
local macro_rules | `(tactic| walk_at "eval Name") => `(tactic| (k_here; (with_reducible show wpAny _ _ (eval (Expr.Name _ _) (compEnvC _ _ _ _)) _ _ _); k_dflt (first | refine LCgL.ld_own (by with_reducible assumption) (by k_mem) (by with_reducible assumption) (by with_reducible assumption) ?_ | refine kcf_cell (by with_reducible assumption) (by rfl) (by k_mem) (by with_reducible assumption) ?_)))
section
open PySem PySem.W PyProof.Rows PySem.Calls PySem.Spec
set_option maxHeartbeats 8000000
namespace Mine
local macro_rules | `(tactic| walk_at "getMethod ref") => `(tactic| (k_here; k_dflt (first | refine getm_80 (P := _) (by k_in) ?_ | refine getm_75 (P := _) (by k_in) ?_ | refine getm_63 (P := _) (by k_in) ?_)))
local macro_rules | `(tactic| walk_at "call builtin:re.Pattern.sub") => `(tactic| (k_here; (k_dflt (first | refine sub80 (P := _) (by k_in) (by decide +kernel) ?z ?_ | refine sub75 (P := _) (by k_in) (by decide +kernel) ?z ?_)); (case z => walk_at "m_size"); intro u' h' tk' hk'; (with_reducible rename Fr _ _ _ _ => F9); (with_reducible rename News _ _ _ _ => N9); (have F' := Fr.keeps F9 hk'); (have N' := News.grown N9 hk'); clear hk'; k_sweep; (try dsimp only)))
local macro_rules | `(tactic| walk_at "m_size") => `(tactic| ((try simp only [List.size_toArray]); first | omega | (have h9 := crlf_le false ‹Str›.cps.toList; simp only [Array.length_toList] at h9; omega)))
theorem quotedata_c {w : World} {dp un : Nat} {fr : Option (List Env)} {gd : Option (List Code)} {s : Shared} {p : Program} {loose : List Str} {mean : ExcName → Option Value} {mg mb : Str → Option Value}
   {t : Str} {tk : Tok}
  (X : (Mine.hd.heap_39 w.params).In s.heap) (T : Top p loose mean mg mb s.heap) (ht : t.cps.size ≤ 1000)
  (hd : dp + 10 < recursionLimit) (hu : un + 100 < cLine) :
  codeAny (model PySem.Challenge.rw_sr0016_01.row.prog w) (AA dp fr gd un) (.call (.ref 87) ⟨[.str t tk], []⟩)
    (fun r s' => Ends (∃ u, r = .ok (.ret (.str (quoted t) u)) ∧ Keeps s s')) s := by
  refine' enter (binds := [(Str.ofString "data", .str t tk)]) (Lies.all s.heap) ?k1 ?k2 ?k8 ?k6 ?k7 ?k9 ?kB ?_ ?c5 ?c2 ?c3 ?c4
  walk_at "m_entered"
  intro L' h₁ F N hk hsz
  try dsimp only
  k_fold
  walk_at "m_steps"
  exact ⟨_, rfl, _, _, rfl, Fr.keep (by assumption)⟩
end Mine
end
section
open PySem PySem.W PyProof.Rows PySem.Calls PySem.Spec
set_option maxHeartbeats 8000000
namespace Mine
/-- a tuple of texts of bytes -/
def BTup (h : Heap) (T : Addr) (ws : List (List UInt8)) : Prop :=
  ∃ vs : List Value, h.get? T = some { cls := .type "tuple", data := .seq vs.toArray } ∧ vs.length = ws.length ∧ ∀ i, i < ws.length → ∃ u, vs[i]? = some (.bytes (ws.getD i []).toArray u)
theorem BTup.keeps {h h' : Heap} {T : Addr} {ws : List (List UInt8)} (x : BTup h T ws) (k : ∀ b o, h.get? b = some o → h'.get? b = some o) : BTup h' T ws :=
  let ⟨vs, h1, h2⟩ := x; ⟨vs, k _ _ h1, h2⟩
def body (b : Array UInt8) (e : Nat) : Array UInt8 := (((b.map (·.toNat)).extract 9 e).map (·.toUInt8))
theorem news_add {h₀ h h' : Heap} {L l : Addr} {m : Str → Option Value} {o : Obj} {news : List (Addr × Obj)} (F : Fr h₀ L h m) (N : News h₀ L h news) (k : ∀ b o, h.get? b = some o → h'.get? b = some o) (hn : h.get? l = none) (ho : h'.get? l = some o) : News h₀ L h' ((l, o) :: news) := by
  intro p hp
  rcases List.mem_cons.mp hp with rfl | hp
  · refine ⟨ho, fun q => ?_, ?_⟩
    · obtain ⟨_, _, _, e, _⟩ := F.ns
      dsimp only at q
      rw [q, e] at hn; cases hn
    · cases e : h₀.get? l with
      | none => rfl
      | some o' => rw [F.keep _ _ e] at hn; cases hn
  · exact ⟨k _ _ (N p hp).1, (N p hp).2⟩
theorem news_add2 {h₀ h h' : Heap} {L l l₂ : Addr} {m : Str → Option Value} {o o₂ : Obj} {news : List (Addr × Obj)} (F : Fr h₀ L h m) (N : News h₀ L h news) (k : ∀ b o, h.get? b = some o → h'.get? b = some o) (hn : h.get? l = none) (hn₂ : h.get? l₂ = none) (ho : h'.get? l = some o) (ho₂ : h'.get? l₂ = some o₂) :
    News h₀ L h' ((l, o) :: (l₂, o₂) :: news) := by
  intro p hp
  rcases List.mem_cons.mp hp with rfl | hp
  · exact news_add F N k hn ho _ (.head _)
  · exact news_add F N k hn₂ ho₂ _ hp
local macro_rules | `(tactic| walk_at "getMethod ref") => `(tactic| (k_here; k_dflt (first | refine getm_63 (P := _) (by k_in) ?_ | refine getm_mo (Rx.MatchAt.ofNews (by k_asm) (by k_mem) (by k_mem)) ?_)))
local macro_rules | `(tactic| walk_at "getMethod bytes") => `(tactic| (k_here; k_dflt (refine getm_by ?_)))
local macro_rules | `(tactic| walk_at "truthy ref") => `(tactic| (k_here; k_dflt (refine Rx.truthy_match (Rx.MatchAt.ofNews (by k_asm) (by k_mem) (by k_mem)) ?_)))
local macro_rules | `(tactic| walk_at "call builtin:re.Pattern.match") => `(tactic| (k_here; (k_dflt (refine Rx.match_call (P := _) (by k_in) (by assumption) ?_)); intro a' T' h' tk' hk' hn1' hn2' hne' ho1' ho2'; (with_reducible rename Fr _ _ _ _ => F9); (with_reducible rename News _ _ _ _ => N9); (have F' := Fr.keeps F9 hk'); (have N' := news_add2 F9 N9 hk' hn1' hn2' ho1' ho2'); clear hk'; k_sweep; (try dsimp only)))
local macro_rules | `(tactic| walk_at "call builtin:re.Match.group") => `(tactic| (k_here; (k_dflt (refine Rx.group_call (P := _) (by k_in) (Rx.MatchAt.ofNews (by k_asm) (by k_mem) (by k_mem)) (by assumption) ?_)); intro tk' u'; (try dsimp only)))
local macro_rules | `(tactic| walk_at "call builtin:bytes.split") => `(tactic| (k_here; (k_dflt (refine En.split_call (by assumption) (by assumption) (by assumption) (by assumption) ?_)); intro vs' h' tk' l' hk' hn' hl' hv' hi'; (with_reducible rename Fr _ _ _ _ => F9); (with_reducible rename News _ _ _ _ => N9); (have F' := Fr.keeps F9 hk'); (have N' := news_add F9 N9 hk' hn' hl'); clear hk'; k_sweep; (try dsimp only)))
local macro_rules | `(tactic| walk_at "call type:tuple") => `(tactic| (k_here; (with_reducible rename Fr _ _ _ _ => F9); (with_reducible rename News _ _ _ _ => N9); (k_dflt (refine tuple_ofL F9 N9 (News.isList N9 (.head _)) ?_ (by rw [sizeLine_eq]; omega))); intro D' h' F' N' hk'; clear hk'; k_sweep; (try dsimp only)))
theorem parse_c {w : World} {dp un : Nat} {fr : Option (List Env)} {gd : Option (List Code)} {s : Shared} {p : Program} {loose : List Str} {mean : ExcName → Option Value} {mg mb : Str → Option Value}
   {b : Array UInt8} {tk : Tok} {N e : Nat} {ws : List (List UInt8)}
  (X : (Mine.hd.heap_39 w.params).In s.heap) (T : Top p loose mean mg mb s.heap) (hb : b.size ≤ 10000)
  (FT : Rx.FlagText (b.map (·.toNat)) (b.map (·.toNat)).size N e)
  (hw : Builtin.Bytes.words ((((b.map (·.toNat)).extract 9 e).map (·.toUInt8)).size + 1) ((((b.map (·.toNat)).extract 9 e).map (·.toUInt8)).size + 1) (((b.map (·.toNat)).extract 9 e).map (·.toUInt8)).toList = ws)
  (hl : ∀ w ∈ ws, w.length ≤ 10000) (hn : ws.length ≤ 10000)
  (hsp : (((b.map (·.toNat)).extract 9 e).map (·.toUInt8)) = #[] ∨ (((b.map (·.toNat)).extract 9 e).map (·.toUInt8)).any Builtin.Bytes.isSpace = true)
  (hd : dp + 10 < recursionLimit) (hu : un + 100 < cLine) :
  codeAny (model PySem.Challenge.rw_sr0016_01.row.prog w) (AA dp fr gd un) (.call (.ref 70) ⟨[.bytes b tk], []⟩)
    (fun r s' => Ends (∃ T, r = .ok (.ret (.ref T)) ∧ Keeps s s' ∧ s.heap.get? T = none ∧ BTup s'.heap T ws)) s := by
  refine' enter (binds := [(Str.ofString "resp", .bytes b tk)]) (Lies.all s.heap) ?k1 ?k2 ?k8 ?k6 ?k7 ?k9 ?kB ?_ ?c5 ?c2 ?c3 ?c4
  walk_at "m_entered"
  intro L' h₁ F N hk hsz
  try dsimp only
  k_fold
  walk_at "m_steps"
  rename News _ _ _ _ => N9
  exact ⟨_, rfl, ⟨_, _, rfl, Fr.keep (by assumption)⟩, (N9 _ (.head _)).2.2, ⟨_, (N9 _ (.head _)).1, by assumption, by assumption⟩⟩
end Mine
end
section
open PySem PySem.W PyProof.Rows PySem.Calls PySem.Spec
set_option maxHeartbeats 600000
namespace Mine
local macro_rules | `(tactic| walk_at "binaryOp Add str str") => `(tactic| (k_here; (refine PyProof.Rows.add_str ?_ ?hsz; (case hsz => walk_at "m_len"); intro _ _)))
local macro_rules | `(tactic| walk_at "m_len") => `(tactic| (with_reducible first | exact len3 (by assumption) (by assumption) (by assumption) (by assumption) | exact len2 (by assumption) (by assumption) (by assumption) | exact len1 (by assumption) (by assumption)))
theorem reply_c {w : World} {dp un : Nat} {fr : Option (List Env)} {gd : Option (List Code)} {s : Shared} {p : Program} {loose : List Str} {mean : ExcName → Option Value} {mg mb : Str → Option Value}
   {z : Int} {tz : Tok} {l : Addr} {vs : List Value} {ds : List Int}
  (X : (Mine.hd.heap_39 w.params).In s.heap) (T : Top p loose mean mg mb s.heap) (hl : s.heap.IsList l vs.toArray) (hi : IntsAre vs ds) (hlen : ds.length = 6)
  (hz0 : 0 ≤ z) (hz : z < 16) (hb : ∀ k, k < 4 → 0 ≤ ds.getD k 0 ∧ ds.getD k 0 < 18)
  (hd : dp + 10 < recursionLimit) (hu : un + 100 < cLine) :
  codeAny (model PySem.Challenge.rw_sr0016_01.row.prog w) (AA dp fr gd un) (.call (.ref 99) ⟨[.int z tz, .ref l], []⟩)
    (fun r s' => Ends (∃ u, r = .ok (.ret (.str ⟨(replyUp z ds 4 ++ [41]).toArray⟩ u)) ∧ Keeps s s')) s := by
  refine' enter (binds := [(Str.ofString "z", .int z tz), (Str.ofString "drawn", .ref l)]) (Lies.all s.heap) ?k1 ?k2 ?k8 ?k6 ?k7 ?k9 ?kB ?_ ?c5 ?c2 ?c3 ?c4
  walk_at "m_entered"
  intro L' h₁ F N hk hsz
  try dsimp only
  k_fold
  walk_at "m_to_for"
  refine For_invV s.heap rfl rfl ?_
  walk_at "m_to_iter"
  rename IsRange _ _ _ _ _ _ _ _ => hR
  rename Fr _ _ _ _ => F1
  rename News _ _ _ _ => N1
  refine rng_loop (n := 4) (fun i m news => news = [] ∧ m "z" = some (.int z tz) ∧ m "drawn" = some (.ref l) ∧ ∃ u, m "reply" = some (.str ⟨(replyUp z ds i).toArray⟩ u)) rfl hR (by decide) F1 N1 ?_ ?_ ?_
  · exact ⟨rfl, rfl, rfl, _, congrArg (fun x => some (Value.str x _)) (show Str.ofString "* FLAGS (" = ⟨[42, 32, 70, 76, 65, 71, 83, 32, 40].toArray⟩ by decide +kernel)⟩
  · rintro i t m₁ news₁ I h tk hi ⟨rfl, e1, e2, u, e3⟩ hoff F0 N0
    have F : Fr s.heap L' h (fun y => if y = Str.ofString "k" then some (.int (i : Int) t) else m₁ y) := F0
    have N : News s.heap L' h [(I, rngObj ((i : Int) + 1) ((4 : Nat) - ((i : Int) + 1)))] := N0
    clear F0 N0 F1 N1 hR
    try clear hsz
    obtain rfl | rfl | rfl | rfl : i = 0 ∨ i = 1 ∨ i = 2 ∨ i = 3 := by omega
    · have F' : Fr s.heap L' h (fun y => if y = Str.ofString "k" then some (.int 0 t) else m₁ y) := F
      have N' : News s.heap L' h [(I, rngObj (((0 : Nat) : Int) + 1) ((4 : Nat) - (((0 : Nat) : Int) + 1)))] := N
      clear F N
      have g1 : 0 ≤ (ds.getD (Int.toNat 0) 0).fdiv 6 := fdiv6_lo (hb 0 (by decide)).1
      have g2 : (ds.getD (Int.toNat 0) 0).fdiv 6 < 3 := fdiv6_hi (hb 0 (by decide)).2
      have hr0 := replyUp_len z ds (k := 0) (by decide)
      have hm1 := mulDot_le (ds.getD (Int.toNat 0) 0)
      have hm2 := mulItem_le (Str.ofString "abcd") 0 (ds.getD (Int.toNat 0) 0)
      have ln1 := le_nl
      have ln2 := le_crnl
      have ln3 := le_cr
      walk_at "m_steps"
      all_goals (rename News _ _ _ _ => N9; rename Fr _ _ _ _ => F9)
      · refine TurnEnd.intro (news₂ := []) F9 (fun p hp => N9 p (.tail _ hp)) (fun p hp => nomatch hp) ⟨rfl, e1, e2, _, congrArg (fun x => some (Value.str x _)) (turn_yes (z := z) (ds := ds) (k := 0) (y := Txt.item (Str.ofString "abcd") 0) (by decide +kernel) (by show (z.fdiv (2 ^ Int.toNat 0)).fmod 2 = 1; assumption) (end0 (by assumption)))⟩
      · refine TurnEnd.intro (news₂ := []) F9 (fun p hp => N9 p (.tail _ hp)) (fun p hp => nomatch hp) ⟨rfl, e1, e2, _, congrArg (fun x => some (Value.str x _)) (turn_yes (z := z) (ds := ds) (k := 0) (y := Txt.item (Str.ofString "abcd") 0) (by decide +kernel) (by show (z.fdiv (2 ^ Int.toNat 0)).fmod 2 = 1; assumption) (end1 (by assumption)))⟩
      · refine TurnEnd.intro (news₂ := []) F9 (fun p hp => N9 p (.tail _ hp)) (fun p hp => nomatch hp) ⟨rfl, e1, e2, _, congrArg (fun x => some (Value.str x _)) (turn_yes (z := z) (ds := ds) (k := 0) (y := Txt.item (Str.ofString "abcd") 0) (by decide +kernel) (by show (z.fdiv (2 ^ Int.toNat 0)).fmod 2 = 1; assumption) (end2 (by assumption)))⟩
      · refine TurnEnd.intro (news₂ := []) F9 (fun p hp => N9 p hp) (fun p hp => nomatch hp) ⟨rfl, e1, e2, u, by rw [turn_no (k := 0) (by show ¬ (z.fdiv (2 ^ Int.toNat 0)).fmod 2 = 1; assumption)]; exact e3⟩
    · have F' : Fr s.heap L' h (fun y => if y = Str.ofString "k" then some (.int 1 t) else m₁ y) := F
      have N' : News s.heap L' h [(I, rngObj (((1 : Nat) : Int) + 1) ((4 : Nat) - (((1 : Nat) : Int) + 1)))] := N
      clear F N
      have g1 : 0 ≤ (ds.getD (Int.toNat 1) 0).fdiv 6 := fdiv6_lo (hb 1 (by decide)).1
      have g2 : (ds.getD (Int.toNat 1) 0).fdiv 6 < 3 := fdiv6_hi (hb 1 (by decide)).2
      have hr0 := replyUp_len z ds (k := 1) (by decide)
      have hm1 := mulDot_le (ds.getD (Int.toNat 1) 0)
      have hm2 := mulItem_le (Str.ofString "abcd") 1 (ds.getD (Int.toNat 1) 0)
      have ln1 := le_nl
      have ln2 := le_crnl
      have ln3 := le_cr
      walk_at "m_steps"
      all_goals (rename News _ _ _ _ => N9; rename Fr _ _ _ _ => F9)
      · refine TurnEnd.intro (news₂ := []) F9 (fun p hp => N9 p (.tail _ hp)) (fun p hp => nomatch hp) ⟨rfl, e1, e2, _, congrArg (fun x => some (Value.str x _)) (turn_yes (z := z) (ds := ds) (k := 1) (y := Txt.item (Str.ofString "abcd") 1) (by decide +kernel) (by show (z.fdiv (2 ^ Int.toNat 1)).fmod 2 = 1; assumption) (end0 (by assumption)))⟩
      · refine TurnEnd.intro (news₂ := []) F9 (fun p hp => N9 p (.tail _ hp)) (fun p hp => nomatch hp) ⟨rfl, e1, e2, _, congrArg (fun x => some (Value.str x _)) (turn_yes (z := z) (ds := ds) (k := 1) (y := Txt.item (Str.ofString "abcd") 1) (by decide +kernel) (by show (z.fdiv (2 ^ Int.toNat 1)).fmod 2 = 1; assumption) (end1 (by assumption)))⟩
      · refine TurnEnd.intro (news₂ := []) F9 (fun p hp => N9 p (.tail _ hp)) (fun p hp => nomatch hp) ⟨rfl, e1, e2, _, congrArg (fun x => some (Value.str x _)) (turn_yes (z := z) (ds := ds) (k := 1) (y := Txt.item (Str.ofString "abcd") 1) (by decide +kernel) (by show (z.fdiv (2 ^ Int.toNat 1)).fmod 2 = 1; assumption) (end2 (by assumption)))⟩
      · refine TurnEnd.intro (news₂ := []) F9 (fun p hp => N9 p hp) (fun p hp => nomatch hp) ⟨rfl, e1, e2, u, by rw [turn_no (k := 1) (by show ¬ (z.fdiv (2 ^ Int.toNat 1)).fmod 2 = 1; assumption)]; exact e3⟩
    · have F' : Fr s.heap L' h (fun y => if y = Str.ofString "k" then some (.int 2 t) else m₁ y) := F
      have N' : News s.heap L' h [(I, rngObj (((2 : Nat) : Int) + 1) ((4 : Nat) - (((2 : Nat) : Int) + 1)))] := N
      clear F N
      have g1 : 0 ≤ (ds.getD (Int.toNat 2) 0).fdiv 6 := fdiv6_lo (hb 2 (by decide)).1
      have g2 : (ds.getD (Int.toNat 2) 0).fdiv 6 < 3 := fdiv6_hi (hb 2 (by decide)).2
      have hr0 := replyUp_len z ds (k := 2) (by decide)
      have hm1 := mulDot_le (ds.getD (Int.toNat 2) 0)
      have hm2 := mulItem_le (Str.ofString "abcd") 2 (ds.getD (Int.toNat 2) 0)
      have ln1 := le_nl
      have ln2 := le_crnl
      have ln3 := le_cr
      walk_at "m_steps"
      all_goals (rename News _ _ _ _ => N9; rename Fr _ _ _ _ => F9)
      · refine TurnEnd.intro (news₂ := []) F9 (fun p hp => N9 p (.tail _ hp)) (fun p hp => nomatch hp) ⟨rfl, e1, e2, _, congrArg (fun x => some (Value.str x _)) (turn_yes (z := z) (ds := ds) (k := 2) (y := Txt.item (Str.ofString "abcd") 2) (by decide +kernel) (by show (z.fdiv (2 ^ Int.toNat 2)).fmod 2 = 1; assumption) (end0 (by assumption)))⟩
      · refine TurnEnd.intro (news₂ := []) F9 (fun p hp => N9 p (.tail _ hp)) (fun p hp => nomatch hp) ⟨rfl, e1, e2, _, congrArg (fun x => some (Value.str x _)) (turn_yes (z := z) (ds := ds) (k := 2) (y := Txt.item (Str.ofString "abcd") 2) (by decide +kernel) (by show (z.fdiv (2 ^ Int.toNat 2)).fmod 2 = 1; assumption) (end1 (by assumption)))⟩
      · refine TurnEnd.intro (news₂ := []) F9 (fun p hp => N9 p (.tail _ hp)) (fun p hp => nomatch hp) ⟨rfl, e1, e2, _, congrArg (fun x => some (Value.str x _)) (turn_yes (z := z) (ds := ds) (k := 2) (y := Txt.item (Str.ofString "abcd") 2) (by decide +kernel) (by show (z.fdiv (2 ^ Int.toNat 2)).fmod 2 = 1; assumption) (end2 (by assumption)))⟩
      · refine TurnEnd.intro (news₂ := []) F9 (fun p hp => N9 p hp) (fun p hp => nomatch hp) ⟨rfl, e1, e2, u, by rw [turn_no (k := 2) (by show ¬ (z.fdiv (2 ^ Int.toNat 2)).fmod 2 = 1; assumption)]; exact e3⟩
    · have F' : Fr s.heap L' h (fun y => if y = Str.ofString "k" then some (.int 3 t) else m₁ y) := F
      have N' : News s.heap L' h [(I, rngObj (((3 : Nat) : Int) + 1) ((4 : Nat) - (((3 : Nat) : Int) + 1)))] := N
      clear F N
      have g1 : 0 ≤ (ds.getD (Int.toNat 3) 0).fdiv 6 := fdiv6_lo (hb 3 (by decide)).1
      have g2 : (ds.getD (Int.toNat 3) 0).fdiv 6 < 3 := fdiv6_hi (hb 3 (by decide)).2
      have hr0 := replyUp_len z ds (k := 3) (by decide)
      have hm1 := mulDot_le (ds.getD (Int.toNat 3) 0)
      have hm2 := mulItem_le (Str.ofString "abcd") 3 (ds.getD (Int.toNat 3) 0)
      have ln1 := le_nl
      have ln2 := le_crnl
      have ln3 := le_cr
      walk_at "m_steps"
      all_goals (rename News _ _ _ _ => N9; rename Fr _ _ _ _ => F9)
      · refine TurnEnd.intro (news₂ := []) F9 (fun p hp => N9 p (.tail _ hp)) (fun p hp => nomatch hp) ⟨rfl, e1, e2, _, congrArg (fun x => some (Value.str x _)) (turn_yes (z := z) (ds := ds) (k := 3) (y := Txt.item (Str.ofString "abcd") 3) (by decide +kernel) (by show (z.fdiv (2 ^ Int.toNat 3)).fmod 2 = 1; assumption) (end0 (by assumption)))⟩
      · refine TurnEnd.intro (news₂ := []) F9 (fun p hp => N9 p (.tail _ hp)) (fun p hp => nomatch hp) ⟨rfl, e1, e2, _, congrArg (fun x => some (Value.str x _)) (turn_yes (z := z) (ds := ds) (k := 3) (y := Txt.item (Str.ofString "abcd") 3) (by decide +kernel) (by show (z.fdiv (2 ^ Int.toNat 3)).fmod 2 = 1; assumption) (end1 (by assumption)))⟩
      · refine TurnEnd.intro (news₂ := []) F9 (fun p hp => N9 p (.tail _ hp)) (fun p hp => nomatch hp) ⟨rfl, e1, e2, _, congrArg (fun x => some (Value.str x _)) (turn_yes (z := z) (ds := ds) (k := 3) (y := Txt.item (Str.ofString "abcd") 3) (by decide +kernel) (by show (z.fdiv (2 ^ Int.toNat 3)).fmod 2 = 1; assumption) (end2 (by assumption)))⟩
      · refine TurnEnd.intro (news₂ := []) F9 (fun p hp => N9 p hp) (fun p hp => nomatch hp) ⟨rfl, e1, e2, u, by rw [turn_no (k := 3) (by show ¬ (z.fdiv (2 ^ Int.toNat 3)).fmod 2 = 1; assumption)]; exact e3⟩
  · rintro m₁ news₁ h tk ⟨rfl, e1, e2, u, e3⟩ F0 N0
    have F : Fr s.heap L' h m₁ := F0
    have N : News s.heap L' h [] := N0
    clear F0 N0 F1 N1 hR
    have hr0 := replyUp_len z ds (k := 4) (by decide)
    have ln4 := le_par
    walk_at "m_steps"
    rename Fr _ _ _ _ => F9
    exact ⟨_, congrArg (fun x => (Except.ok (Flow.ret (Value.str x _)) : Result)) (par_eq _), _, _, rfl, F9.keep⟩
end Mine
end
section
open PySem PySem.W PyProof.Rows PySem.Calls PySem.Spec
set_option maxHeartbeats 600000
namespace Mine
local macro_rules | `(tactic| walk_at "m_none") => `(tactic| skip)
theorem pw0 {ns : List Int} {b k : Int} (h : ∀ n ∈ ns, 0 ≤ n ∧ n ≤ b) (hk : k ∈ ns) : 0 ≤ k := (h k hk).1
theorem pw1 {ns : List Int} {k : Int} (h : ∀ n ∈ ns, 0 ≤ n ∧ n ≤ 20) (hk : k ∈ ns) : k ≤ 1000000 := Int.le_trans (h k hk).2 (by decide)
theorem pw2 {ns : List Int} {k : Int} (h : ∀ n ∈ ns, 0 ≤ n ∧ n ≤ 20) (hk : k ∈ ns) : ((2 : Int) ^ k.toNat).natAbs < 1073741824 := by
  have h1 := (h k hk).2
  rw [Int.natAbs_pow]
  exact Nat.lt_of_le_of_lt (Nat.pow_le_pow_right (by decide) (show k.toNat ≤ 20 by omega)) (by decide)
theorem p2ne (n : Nat) : (2 : Int) ^ n ≠ 0 := Int.ne_of_gt (Int.pow_pos (by decide))
local macro_rules | `(tactic| walk_at "binaryOp Pow int int") => `(tactic| (k_here; refine' pow_int_small ?p1 ?p2 ?p3 ?_; (case p1 => exact pw0 (by assumption) (by assumption)); (case p2 => exact pw1 (by assumption) (by assumption)); (case p3 => decide)))
local macro_rules | `(tactic| walk_at "binaryOp FloorDiv int int") => `(tactic| (k_here; refine floordiv_int (p2ne _) ?_ (Or.inl (PyProof.noPylong_small (pw2 (by assumption) (by assumption))))))
theorem foes_c {w : World} {dp un : Nat} {fr : Option (List Env)} {gd : Option (List Code)} {s : Shared} {p : Program} {loose : List Str} {mean : ExcName → Option Value} {mg mb : Str → Option Value}
   {l : Addr} {vs : List Value} {ns : List Int} {mk : Int} {tm : Tok}
  (X : (Mine.hd.heap_39 w.params).In s.heap) (T : Top p loose mean mg mb s.heap) (hl : s.heap.IsList l vs.toArray) (hi : IntsAre vs ns) (hn : ns.length ≤ 16)
  (hm0 : 0 ≤ mk) (hm1 : mk < 1048576) (hb : ∀ n ∈ ns, 0 ≤ n ∧ n ≤ 20)
  (hd : dp + 10 < recursionLimit) (hu : un + 100 < cLine) :
  codeAny (model PySem.Challenge.rw_sr0016_01.row.prog w) (AA dp fr gd un) (.call (.ref 109) ⟨[.ref l, .int mk tm], []⟩)
    (fun r s' => Ends (∃ D ys, r = .ok (.ret (.ref D)) ∧ Keeps s s' ∧ s.heap.get? D = none ∧ s'.heap.get? D = some (LCg.lst ys) ∧ IntsAre ys (ns.map fun n => ((2 * mk).fdiv (2 ^ n.toNat)).fmod 2))) s := by
  refine' enterC (binds := [(Str.ofString "lengths", .ref l), (Str.ofString "mask", .int mk tm)]) (Lies.all s.heap) ?k1 ?k2 ?k8 ?k6 ?k7 ?k9 ?kB ?kD ?_ ?c2 ?c3 ?c4
  walk_at "m_enteredC"
  case kD => decide +kernel
  case kB => exact rfl
  intro L' h₁ tk' cells F N Y hk hsz
  k_cells Y
  (try simp only [List.cons_append, List.nil_append] at N)
  try dsimp only
  (try k_unmd)
  (try k_fold)
  walk_at "m_all"
  rename IntsAre _ _ => hI9
  rename News _ _ _ _ => N9
  exact ⟨_, _, rfl, ⟨_, _, rfl, Fr.keep (by assumption)⟩, (N9 _ (.head _)).2.2, (N9 _ (.head _)).1, hI9⟩
end Mine
end
section
open PySem PySem.W PyProof.Rows PySem.Calls PySem.Spec
set_option maxHeartbeats 600000
namespace Mine
theorem szne {k : Int} (h0 : 0 ≤ k) (h1 : k < 6) : ([18, 18, 18, 18, 1024, 1024] : List Int).getD k.toNat 0 ≠ 0 := by
  have h : k = 0 ∨ k = 1 ∨ k = 2 ∨ k = 3 ∨ k = 4 ∨ k = 5 := by omega
  rcases h with rfl | rfl | rfl | rfl | rfl | rfl <;> decide
local macro_rules | `(tactic| walk_at "binaryOp Mod int int") => `(tactic| (k_here; refine mod_int' (szne (by omega) (by omega)) ?_))
theorem map_getD (f : Int → Int) {k : Nat} (hk : k < 6) : (List.map f (rangeKs 0 6)).getD k 0 = f k := by
  have h : k = 0 ∨ k = 1 ∨ k = 2 ∨ k = 3 ∨ k = 4 ∨ k = 5 := by omega
  rcases h with rfl | rfl | rfl | rfl | rfl | rfl <;> simp [rangeKs]
theorem fm_bd (a : Int) {b c : Int} (hb : 0 < b) (hc : b ≤ c) : 0 ≤ a.fmod b ∧ a.fmod b < c := ⟨Int.fmod_nonneg_of_pos _ hb, Int.lt_of_lt_of_le (Int.fmod_lt_of_pos _ hb) hc⟩
set_option maxHeartbeats 8000000 in
theorem drawn_c {w : World} {dp un : Nat} {fr : Option (List Env)} {gd : Option (List Code)} {s : Shared} {p : Program} {loose : List Str} {mean : ExcName → Option Value} {mg mb : Str → Option Value}
   {l : Addr} {vs : List Value} {ns : List Int}
  (X : (Mine.hd.heap_39 w.params).In s.heap) (T : Top p loose mean mg mb s.heap) (hl : s.heap.IsList l vs.toArray) (hi : IntsAre vs ns) (hn : ns.length ≤ 63)
  (hd : dp + 10 < recursionLimit) (hu : un + 100 < cLine) :
  codeAny (model PySem.Challenge.rw_sr0016_01.row.prog w) (AA dp fr gd un) (.call (.ref 92) ⟨[.ref l], []⟩)
    (fun r s' => Ends (∃ D ys ds, r = .ok (.ret (.ref D)) ∧ Keeps s s' ∧ s.heap.get? D = none ∧ s'.heap.get? D = some (LCg.lst ys) ∧ IntsAre ys ds ∧ ds.length = 6 ∧ (∀ k, k < 4 → 0 ≤ ds.getD k 0 ∧ ds.getD k 0 < 18) ∧ (∀ k, k < 6 → 0 ≤ ds.getD k 0 ∧ ds.getD k 0 < 1024))) s := by
  refine' enterC (binds := [(Str.ofString "script", .ref l)]) (Lies.all s.heap) ?k1 ?k2 ?k8 ?k6 ?k7 ?k9 ?kB ?kD ?_ ?c2 ?c3 ?c4
  walk_at "m_enteredC"
  case kD => decide +kernel
  case kB => exact rfl
  intro L' h₁ tk' cells F N Y hk hsz
  k_cells Y
  (try simp only [List.cons_append, List.nil_append] at N)
  try dsimp only
  (try k_unmd)
  (try k_fold)
  walk_at "m_all"
  rename IntsAre _ _ => hI9
  rename News _ _ _ _ => N9
  rename Fr _ _ _ _ => F9
  refine ⟨_, _, _, rfl, ⟨_, _, rfl, F9.keep⟩, (N9 _ (.head _)).2.2, (N9 _ (.head _)).1, hI9, ?_, ?_, ?_⟩
  · simp [rangeKs]
  · intro k hk
    refine (fun e => e ▸ ?_ : ∀ {x : Int}, _ = x → 0 ≤ x ∧ x < 18) (map_getD _ (Nat.lt_trans hk (by decide))).symm
    (try dsimp only)
    have h : k = 0 ∨ k = 1 ∨ k = 2 ∨ k = 3 := by omega
    (repeat' split) <;> first | (exfalso; omega) | (rcases h with rfl | rfl | rfl | rfl <;> exact fm_bd _ (by decide) (by decide)) | skip
  · intro k hk
    refine (fun e => e ▸ ?_ : ∀ {x : Int}, _ = x → 0 ≤ x ∧ x < 1024) (map_getD _ hk).symm
    (try dsimp only)
    have h : k = 0 ∨ k = 1 ∨ k = 2 ∨ k = 3 ∨ k = 4 ∨ k = 5 := by omega
    (repeat' split) <;> first | (exfalso; omega) | (rcases h with rfl | rfl | rfl | rfl | rfl | rfl <;> exact fm_bd _ (by decide) (by decide)) | skip
end Mine
end
section
open PySem PySem.W PyProof.Rows PySem.Calls PySem.Spec
set_option maxHeartbeats 600000
namespace Mine
theorem pk0 {k : Int} (h0 : 0 ≤ k) (h1 : k < 4) : k ≤ 1000000 := by omega
theorem p2ne' (n : Nat) : (2 : Int) ^ n ≠ 0 := Int.ne_of_gt (Int.pow_pos (by decide))
theorem pk2 {k : Int} (h0 : 0 ≤ k) (h1 : k < 4) : ((2 : Int) ^ k.toNat).natAbs < 1073741824 := by
  rw [Int.natAbs_pow]
  exact Nat.lt_of_le_of_lt (Nat.pow_le_pow_right (by decide) (show k.toNat ≤ 4 by omega)) (by decide)
def inZ (z : Int) (k : Int) : Bool := decide ((z.fdiv (2 ^ k.toNat)).fmod 2 = 1)
def BysAre (vs : List Value) (ws : List (List UInt8)) : Prop := vs.length = ws.length ∧ ∀ i, i < ws.length → ∃ u, vs[i]? = some (.bytes (ws.getD i []).toArray u)
def flagB (ds : List Int) (k : Int) : List UInt8 := List.replicate (((ds.getD k.toNat 0).fmod 2).toNat * 2) 46 ++ List.replicate (1 + ((ds.getD k.toNat 0).fdiv 2).fmod 3).toNat (97 + k.toNat.toUInt8)
theorem flat2 (n : Nat) (a b : UInt8) (h : a = b) : (List.replicate n [a, b]).flatten = List.replicate (n * 2) a := by
  subst h
  induction n with
  | zero => rfl
  | succ n ih => rw [List.replicate_succ, List.flatten_cons, ih, Nat.succ_mul]; simp [List.replicate_succ]
theorem flat1 (n : Nat) (a : UInt8) : (List.replicate n [a]).flatten = List.replicate n a := by
  induction n with
  | zero => rfl
  | succ n ih => rw [List.replicate_succ, List.flatten_cons, ih]; simp [List.replicate_succ]
theorem flag_el {n m : Nat} {P : List UInt8} {c : UInt8} (hP : P = [c]) : (List.replicate n [(46 : UInt8), 46]).flatten.toArray ++ (List.replicate m P).flatten.toArray = (List.replicate (n * 2) (46 : UInt8) ++ List.replicate m c).toArray := by
  subst hP
  rw [flat2 _ _ _ rfl, flat1]
  simp
theorem fl_sz {a b : Int} {p q : List UInt8} (ha : a < 2) (hb : b < 3) (hp : p.length ≤ 4) (hq : q.length ≤ 4) : ((List.replicate a.toNat p).flatten.toArray).size + ((List.replicate (1 + b).toNat q).flatten.toArray).size ≤ 16777216 := by
  simp only [List.size_toArray, List.length_flatten, List.map_replicate, List.sum_replicate_nat]
  have h1 : a.toNat * p.length ≤ 1 * 4 := Nat.mul_le_mul (by omega) hp
  have h2 : (1 + b).toNat * q.length ≤ 3 * 4 := Nat.mul_le_mul (by omega) hq
  omega
theorem take_all {ys : List Value} {ks : List Int} {f : Int → List UInt8} (h : IntsAre ys ks) {vs : List Value} (b : BysAre vs ((ks.take ys.toArray.size).map f)) : BysAre vs (ks.map f) := by
  have e : ys.toArray.size = ks.length := by rw [List.size_toArray, h.length]
  rw [e, List.take_length] at b
  exact b
theorem picked4 {k : Int} (h0 : 0 ≤ k) (h1 : k < 4) : (KBy.picked #[97, 98, 99, 100] (some k) (some (k + 1))).toList = [97 + k.toNat.toUInt8] := by
  have hks : k = 0 ∨ k = 1 ∨ k = 2 ∨ k = 3 := by omega
  rcases hks with rfl | rfl | rfl | rfl <;> decide
theorem picked4l {k : Int} (h0 : 0 ≤ k) (h1 : k < 4) : (KBy.picked #[97, 98, 99, 100] (some k) (some (k + 1))).toList.length ≤ 4 := by rw [picked4 h0 h1]; simp
theorem picked4z {k : Int} (h0 : 0 ≤ k) (h1 : k < 4) : (KBy.picked #[97, 98, 99, 100] (some k) (some (k + 1))).size ≤ 16777216 := by
  have hks : k = 0 ∨ k = 1 ∨ k = 2 ∨ k = 3 := by omega
  rcases hks with rfl | rfl | rfl | rfl <;> decide
theorem whole4 {k : Int} (h0 : 0 ≤ k) (h1 : k < 4) : KBy.whole #[97, 98, 99, 100] (some k) (some (k + 1)) = false := by
  have hks : k = 0 ∨ k = 1 ∨ k = 2 ∨ k = 3 := by omega
  rcases hks with rfl | rfl | rfl | rfl <;> decide
theorem picked4n {k : Int} (h0 : 0 ≤ k) (h1 : k < 4) : (KBy.picked #[97, 98, 99, 100] (some k) (some (k + 1))).toList ≠ [] := by rw [picked4 h0 h1]; simp
theorem picked416 {k : Int} (h0 : 0 ≤ k) (h1 : k < 4) : (KBy.picked #[97, 98, 99, 100] (some k) (some (k + 1))).toList.length ≤ 16 := by rw [picked4 h0 h1]; simp
theorem mulp {prog : Program} {w : World} {A : Around} {E : Value → Shared → Prop} {s : Shared} {b : Array UInt8} {n : Int} {t u : Tok} {Q : Value → Shared → Prop} (hb : b.toList ≠ []) (hlo : -1048576 ≤ n) (hn : n ≤ 1048576) (hs : b.toList.length ≤ 16) (h : ∀ t' k, Q (.bytes ((List.replicate n.toNat b.toList).flatten).toArray t') { s with toks := k }) :
    wpAny (model prog w) A (binaryOp .Mult (.bytes b t) (.int n u)) Q E s := bytes_mul_any (b := b.toList) hb hlo hn hs h
def ks4 (n : Nat) : List Int := (List.range n).map fun (i : Nat) => (i : Int)
theorem ks4_succ (n : Nat) : ks4 (n + 1) = ks4 n ++ [(n : Int)] := by simp [ks4, List.range_succ]
theorem named_y {z : Int} {ys : List Value} {i : Nat} {t : Tok} (h : IntsAre ys ((ks4 i).filter (inZ z))) (e : (z.fdiv (2 ^ (i : Int).toNat)).fmod 2 = 1) : IntsAre (ys ++ [.int (i : Int) t]) ((ks4 (i + 1)).filter (inZ z)) := by
  rw [ks4_succ, List.filter_append]
  have : inZ z (i : Int) = true := decide_eq_true e
  simp only [List.filter_cons, this, if_true, List.filter_nil]
  exact IntsAre.append h (.cons _ t .nil)
theorem named_n {z : Int} {ys : List Value} {i : Nat} (h : IntsAre ys ((ks4 i).filter (inZ z))) (e : (z.fdiv (2 ^ (i : Int).toNat)).fmod 2 ≠ 1) : IntsAre ys ((ks4 (i + 1)).filter (inZ z)) := by
  rw [ks4_succ, List.filter_append]
  have : inZ z (i : Int) = false := decide_eq_false e
  simp only [List.filter_cons, this, List.filter_nil]
  simpa using h
theorem ks4_len {z : Int} {i : Nat} (hi : i ≤ 4) : ((ks4 i).filter (inZ z)).length ≤ 4 := by
  have := List.length_filter_le (inZ z) (ks4 i)
  simp [ks4] at this ⊢
  omega
theorem ks4_mem {z k : Int} {i : Nat} (h : k ∈ (ks4 i).filter (inZ z)) : 0 ≤ k ∧ k < i := by
  have := (List.mem_filter.mp h).1
  simp [ks4] at this
  omega
theorem bys_snoc {ys : List Value} {ks : List Int} {f : Int → List UInt8} {i : Nat} {k : Int} {t : Tok} {b : Array UInt8} (h : BysAre ys ((ks.take i).map f)) (hk : ks[i]? = some k) (hb : b = (f k).toArray) :
    BysAre (ys ++ [.bytes b t]) ((ks.take (i + 1)).map f) := by
  subst hb
  rw [List.take_add_one, hk]
  simp only [Option.toList_some, List.map_append, List.map_cons, List.map_nil]
  obtain ⟨h1, h2⟩ := h
  refine ⟨by simp [h1], fun j hj => ?_⟩
  by_cases hj' : j < ((ks.take i).map f).length
  · obtain ⟨u, e⟩ := h2 j hj'
    refine ⟨u, ?_⟩
    rw [List.getElem?_append_left (by omega), e]
    simp only [List.getD_eq_getElem?_getD]
    rw [List.getElem?_append_left hj']
  · have : j = ((ks.take i).map f).length := by simp only [List.length_append, List.length_singleton] at hj; omega
    subst this
    refine ⟨t, ?_⟩
    rw [List.getElem?_append_right (by omega), h1]
    simp
local macro_rules | `(tactic| walk_at "binaryOp Pow int int") => `(tactic| (k_here; refine' pow_int_small ?p1 ?p2 ?p3 ?_; (case p1 => assumption); (case p2 => exact pk0 (by assumption) (by assumption)); (case p3 => decide)))
local macro_rules | `(tactic| walk_at "binaryOp FloorDiv int int") => `(tactic| (k_here; refine floordiv_int (p2ne' _) ?_ (Or.inl (PyProof.noPylong_small (pk2 (by assumption) (by assumption))))))
local macro_rules | `(tactic| walk_at "exec Assign cons ListComp") => `(tactic| (k_here; k_dflt (refine LCt.Assign_ListComp_T (F₀ := by k_asm) (by rfl) (by with_unfolding_all rfl) (by with_unfolding_all rfl) (by decide) (by rfl) (by decide) (by rfl) (by rfl) (by rfl) ?_)))
local macro_rules | `(tactic| walk_at "eval ListComp") => `(tactic| (k_here; k_dflt (refine LCg.ListComp_U (F₀ := by k_asm) (by with_unfolding_all rfl) (by decide) (by rfl) (by decide) (by rfl) ?_)))
local macro_rules | `(tactic| walk_at "subscriptTail") => `(tactic| (k_here; (with_reducible show wpAny _ _ (subscriptTail _ (Expr.Slice _ _ none _) (Value.bytes _ _) (Value.ref _)) _ _ _); (with_reducible rename Fr _ _ _ _ => F'); (with_reducible rename News _ _ _ _ => N'); (refine KBy.slice_N (s := ⟨_, _, _, _, _⟩) F' N' (by constructor) (by constructor) (whole4 (by assumption) (by assumption)) (picked4z (by assumption) (by assumption)) ?_); intro _ _ _ _ _))
local macro_rules | `(tactic| walk_at "binaryOp Mult bytes int") => `(tactic| (k_here; (refine mulp (picked4n (by assumption) (by assumption)) (by omega) (by omega) (picked416 (by assumption) (by assumption)) ?_); intro _ _))
local macro_rules | `(tactic| walk_at "binaryOp Add bytes bytes") => `(tactic| (k_here; (refine KBy.add_bytes (fl_sz (by assumption) (by assumption) (by decide) (picked4l (by assumption) (by assumption))) ?_); intro _ _))
local macro_rules | `(tactic| walk_at "call type:tuple") => `(tactic| (k_here; (with_reducible rename Fr _ _ _ _ => F9); (with_reducible rename News _ _ _ _ => N9); (k_dflt (refine tuple_ofL F9 N9 (News.isList N9 (.head _)) ?_ (by rw [sizeLine_eq]; omega))); intro D' h' F' N' hk'; clear hk'; k_sweep; (try dsimp only)))
set_option maxHeartbeats 8000000 in
theorem flags_c {w : World} {dp un : Nat} {fr : Option (List Env)} {gd : Option (List Code)} {s : Shared} {p : Program} {loose : List Str} {mean : ExcName → Option Value} {mg mb : Str → Option Value}
   {z : Int} {tz : Tok} {l : Addr} {vs : List Value} {ds : List Int}
  (X : (Mine.hd.heap_39 w.params).In s.heap) (T : Top p loose mean mg mb s.heap) (hl : s.heap.IsList l vs.toArray) (hi : IntsAre vs ds) (hlen : ds.length = 6)
  (hz0 : 0 ≤ z) (hz : z < 16) (hb : ∀ k, k < 4 → 0 ≤ ds.getD k 0 ∧ ds.getD k 0 < 18)
  (hd : dp + 10 < recursionLimit) (hu : un + 100 < cLine) :
  codeAny (model PySem.Challenge.rw_sr0016_01.row.prog w) (AA dp fr gd un) (.call (.ref 104) ⟨[.int z tz, .ref l], []⟩)
    (fun r s' => Ends (∃ T, r = .ok (.ret (.ref T)) ∧ Keeps s s' ∧ s.heap.get? T = none ∧ BTup s'.heap T (((ks4 4).filter (inZ z)).map (flagB ds)))) s := by
  refine' enterC (binds := [(Str.ofString "z", .int z tz), (Str.ofString "drawn", .ref l)]) (Lies.all s.heap) ?k1 ?k2 ?k8 ?k6 ?k7 ?k9 ?kB ?kD ?_ ?c2 ?c3 ?c4
  walk_at "m_enteredC"
  case kD => decide +kernel
  case kB => exact rfl
  intro L' h₁ tk' cells F N Y hk hsz
  k_cells Y
  (try simp only [List.cons_append, List.nil_append] at N)
  try dsimp only
  (try k_unmd)
  (try k_fold)
  walk_at "m_steps"
  rename IsRange _ _ _ _ _ _ _ _ => hR
  rename Fr _ _ _ _ => F1
  rename News _ _ _ _ => N1
  refine LCt.CompSrcT.range (n := 4) (by rfl) F1 N1 hR (by decide) (by rfl) (Nat.le_of_ble_eq_true rfl) ?_
  intro g'
  refine restT (fun i ys nw => nw = _ ∧ IntsAre ys ((ks4 i).filter (inZ z))) ⟨rfl, .nil⟩ ?_ ?_
  · rintro i ys nw v I oI C oC D m₂ h tk E' hi ⟨t, rfl⟩ ⟨rfl, hJ⟩ hC hx F N off ne
    clear F1 N1 hR
    have hk0 : (0 : Int) ≤ (i : Int) := by omega
    have hk4 : (i : Int) < 4 := by omega
    rw [Int.zero_add] at hx
    (try simp only [LCg.Off3, and_true] at off)
    walk_at "m_steps"
    · exact LCg.CompEnd.intro F N _ (fun p hp => hp) (by simp only [LCg.Off3, and_true]; exact off) trivial ⟨rfl, named_y hJ (by assumption)⟩
    · exact LCg.CompEnd.intro F N _ (fun p hp => hp) (by simp only [LCg.Off3, and_true]; exact off) trivial ⟨rfl, named_n hJ (by assumption)⟩
  · rintro ys nw ⟨rfl, hJ⟩
    clear F1 N1 hR
    have hkl := hJ.length
    have hk4 := ks4_len (z := z) (i := 4) (by decide)
    walk_at "m_steps"
    rename Fr _ _ _ _ => F1
    rename News _ _ _ _ => N1
    refine LCg.CompSrc.ledger (by rfl) F1 N1 (by k_mem) (by rw [sizeLine_eq]; simp only [List.size_toArray]; omega) ?_
    intro g2'
    refine restI (fun i vs nw => nw = _ ∧ BysAre vs ((((ks4 4).filter (inZ z)).take i).map (flagB ds))) ⟨rfl, rfl, fun i hi => absurd hi (Nat.not_lt_zero _)⟩ ?_ ?_
    · rintro i vs nw v I oI C oC D m₂ h tk E' hi hv ⟨rfl, hJ2⟩ hC hx F N off ne
      obtain ⟨k, t, rfl, hk⟩ := IntsAre.at hJ i v (by simpa using hv)
      clear F1 N1
      obtain ⟨hk0, hk5⟩ := ks4_mem (List.mem_of_getElem? hk)
      have hk4 : k < 4 := hk5
      clear hk5
      (try simp only [LCg.Off3, and_true] at off)
      have g1 := fmod_lo (ds.getD k.toNat 0) (n := 2) (by decide)
      have g2 := fmod_hi (ds.getD k.toNat 0) (n := 2) (by decide)
      have g3 := fmod_lo ((ds.getD k.toNat 0).fdiv 2) (n := 3) (by decide)
      have g4 := fmod_hi ((ds.getD k.toNat 0).fdiv 2) (n := 3) (by decide)
      walk_at "m_steps"
      rename News _ _ _ _ => N9
      rename Fr _ _ _ _ => F9
      exact LCg.CompEnd.intro F9 N9 _ (fun p hp => hp) (by simp only [LCg.Off3, and_true]; exact off) (Or.inr ⟨_, .head _, rfl, _, rfl⟩) ⟨rfl, bys_snoc hJ2 hk (flag_el (picked4 hk0 hk4))⟩
    · rintro vs nw ⟨rfl, hJ2⟩
      clear F1 N1
      have hJ3 := take_all hJ hJ2
      have hv9 := hJ3.1
      have hl9 : (List.map (flagB ds) (List.filter (inZ z) (ks4 4))).length = (List.filter (inZ z) (ks4 4)).length := List.length_map ..
      walk_at "m_steps"
      rename News _ _ _ _ => N9
      exact ⟨_, rfl, ⟨_, _, rfl, Fr.keep (by assumption)⟩, (N9 _ (.head _)).2.2, ⟨_, (N9 _ (.head _)).1, hJ3⟩⟩
end Mine
end
section
open PySem PySem.W PyProof.Rows PySem.Calls PySem.Spec
set_option maxHeartbeats 600000
namespace Mine
def Srt (ns : List Int) : Prop := ∀ i j, i ≤ j → j < ns.length → ns.getD i 0 ≤ ns.getD j 0
def Lb (ns : List Int) (x p : Int) : Prop := 0 ≤ p ∧ p ≤ ns.length ∧ (∀ i : Nat, (i : Int) < p → ns.getD i 0 < x) ∧ (∀ i : Nat, p ≤ i → i < ns.length → x ≤ ns.getD i 0)
theorem mid_b {lo hi : Int} (h : lo < hi) : lo ≤ (lo + hi).fdiv 2 ∧ (lo + hi).fdiv 2 < hi := by
  rw [Int.fdiv_eq_ediv_of_nonneg _ (by decide)]
  omega
theorem bl_up {ns : List Int} {lo hi x : Int} (hs : Srt ns) (h0 : 0 ≤ lo) (h : lo < hi) (h3 : hi ≤ ns.length) (hx : ns.getD ((lo + hi).fdiv 2).toNat 0 < x) : ∀ i : Nat, (i : Int) < (lo + hi).fdiv 2 + 1 → ns.getD i 0 < x := by
  intro i h4
  have hm := mid_b h
  exact Int.lt_of_le_of_lt (hs i ((lo + hi).fdiv 2).toNat (by omega) (by omega)) hx
theorem bl_dn {ns : List Int} {lo hi x : Int} (hs : Srt ns) (h0 : 0 ≤ lo) (h : lo < hi) (h3 : hi ≤ ns.length) (hx : ¬ ns.getD ((lo + hi).fdiv 2).toNat 0 < x) : ∀ i : Nat, (lo + hi).fdiv 2 ≤ (i : Int) → i < ns.length → x ≤ ns.getD i 0 := by
  intro i h4 h5
  have hm := mid_b h
  exact Int.le_trans (Int.not_lt.mp hx) (hs ((lo + hi).fdiv 2).toNat i (by omega) h5)
theorem bl_end {ns : List Int} {lo hi x : Int} (h0 : 0 ≤ lo) (h2 : lo ≤ hi) (h : ¬ lo < hi) (h3 : hi ≤ ns.length) (b1 : ∀ i : Nat, (i : Int) < lo → ns.getD i 0 < x) (b2 : ∀ i : Nat, hi ≤ i → i < ns.length → x ≤ ns.getD i 0) : Lb ns x lo :=
  ⟨h0, by omega, b1, fun i h5 h6 => b2 i (by omega) h6⟩
theorem bl_c {w : World} {dp un : Nat} {fr : Option (List Env)} {gd : Option (List Code)} {s : Shared} {p : Program} {loose : List Str} {mean : ExcName → Option Value} {mg mb : Str → Option Value}
   {l : Addr} {vs : List Value} {ns : List Int} {x : Int} {tx : Tok}
  (X : (Mine.hd.heap_39 w.params).In s.heap) (T : Top p loose mean mg mb s.heap) (hl : s.heap.IsList l vs.toArray) (hi : IntsAre vs ns) (hn : ns.length ≤ 63)
  (hd : dp + 10 < recursionLimit) (hu : un + 100 < cLine) (hs : Srt ns) :
  codeAny (model PySem.Challenge.rw_sr0016_01.row.prog w) (AA dp fr gd un) (.call (.ref 58) ⟨[.ref l, .int x tx], []⟩)
    (fun r s' => Ends (∃ v t, r = .ok (.ret (.int v t)) ∧ Keeps s s' ∧ Lb ns x v)) s := by
  refine' enter (binds := [(Str.ofString "a", .ref l), (Str.ofString "x", .int x tx), (Str.ofString "lo", .int 0 311), (Str.ofString "hi", .none), (Str.ofString "key", .none)]) (Lies.all s.heap) ?k1 ?k2 ?k8 ?k6 ?k7 ?k9 ?kB ?_ ?c5 ?c2 ?c3 ?c4
  walk_at "m_entered"
  intro L' h₁ F N hk hsz
  try dsimp only
  k_fold
  walk_at "m_to_while"
  · (try clear F); (try clear N)
    rename Fr _ _ _ _ => F
    rename News _ _ _ _ => N
    refine While_inv (fun n m news => ∃ lo hi t1 t2, m "lo" = some (.int lo t1) ∧ m "hi" = some (.int hi t2) ∧ m "a" = some (.ref l) ∧ m "x" = some (.int x tx) ∧ 0 ≤ lo ∧ lo ≤ hi ∧ hi ≤ ns.length ∧ n = (hi - lo).toNat ∧ news = [] ∧
      (∀ i : Nat, (i : Int) < lo → ns.getD i 0 < x) ∧ (∀ i : Nat, hi ≤ i → i < ns.length → x ≤ ns.getD i 0)) (n₀ := ns.length) F N ?_ ?_
    · exact ⟨_, _, _, _, rfl, rfl, rfl, rfl, by omega, by omega, by omega, by omega, rfl, fun i hi => by omega, fun i h1 h2 => by omega⟩
    · rintro n m₁ news₁ h₂ tk₂ F₂ N₂ ⟨lo, hi, t1, t2, e1, e2, e3, e4, c1, c2, c3, rfl, rfl, b1, b2⟩
      (try clear F); (try clear N)
      walk_at "m_steps"
      · rename Fr _ _ _ _ => F9
        rename News _ _ _ _ => N9
        have hm := mid_b (lo := lo) (hi := hi) (by assumption)
        exact WhileStep.intro F9 N9 (n' := (hi - ((lo + hi).fdiv 2 + 1)).toNat) (by omega) ⟨_, _, _, _, rfl, e2, e3, e4, by omega, by omega, by omega, rfl, rfl, bl_up hs c1 (by assumption) c3 (by assumption), b2⟩
      · rename Fr _ _ _ _ => F9
        rename News _ _ _ _ => N9
        have hm := mid_b (lo := lo) (hi := hi) (by assumption)
        exact WhileStep.intro F9 N9 (n' := ((lo + hi).fdiv 2 - lo).toNat) (by omega) ⟨_, _, _, _, e1, rfl, e3, e4, by omega, by omega, by omega, rfl, rfl, b1, bl_dn hs c1 (by assumption) c3 (by assumption)⟩
      · exact ⟨_, _, rfl, ⟨_, _, rfl, F₂.keep⟩, bl_end c1 c2 (by assumption) c3 b1 b2⟩
end Mine
end
section
open PySem PySem.W PyProof.Rows PySem.Calls PySem.Spec
set_option maxHeartbeats 600000
namespace Mine
local macro_rules | `(tactic| walk_at "m_none") => `(tactic| skip)
theorem bl4_c {w : World} {dp un : Nat} {fr : Option (List Env)} {gd : Option (List Code)} {s : Shared} {p : Program} {loose : List Str} {mean : ExcName → Option Value} {mg mb : Str → Option Value}
   {l : Addr} {vs : List Value} {ns : List Int} {x : Int} {tx t0 : Tok}
  (X : (Mine.hd.heap_39 w.params).In s.heap) (T : Top p loose mean mg mb s.heap) (hl : s.heap.IsList l vs.toArray) (hi : IntsAre vs ns) (hn : ns.length ≤ 63)
  (hd : dp + 10 < recursionLimit) (hu : un + 100 < cLine) (hs : Srt ns) :
  codeAny (model PySem.Challenge.rw_sr0016_01.row.prog w) (AA dp fr gd un) (.call (.ref 58) ⟨[.ref l, .int x tx, .int 0 t0, .none], []⟩)
    (fun r s' => Ends (∃ v t, r = .ok (.ret (.int v t)) ∧ Keeps s s' ∧ Lb ns x v)) s := by
  refine' enter (binds := [(Str.ofString "a", .ref l), (Str.ofString "x", .int x tx), (Str.ofString "lo", .int 0 t0), (Str.ofString "hi", .none), (Str.ofString "key", .none)]) (Lies.all s.heap) ?k1 ?k2 ?k8 ?k6 ?k7 ?k9 ?kB ?_ ?c5 ?c2 ?c3 ?c4
  walk_at "m_entered"
  intro L' h₁ F N hk hsz
  try dsimp only
  k_fold
  walk_at "m_to_while"
  · (try clear F); (try clear N)
    rename Fr _ _ _ _ => F
    rename News _ _ _ _ => N
    refine While_inv (fun n m news => ∃ lo hi t1 t2, m "lo" = some (.int lo t1) ∧ m "hi" = some (.int hi t2) ∧ m "a" = some (.ref l) ∧ m "x" = some (.int x tx) ∧ 0 ≤ lo ∧ lo ≤ hi ∧ hi ≤ ns.length ∧ n = (hi - lo).toNat ∧ news = [] ∧
      (∀ i : Nat, (i : Int) < lo → ns.getD i 0 < x) ∧ (∀ i : Nat, hi ≤ i → i < ns.length → x ≤ ns.getD i 0)) (n₀ := ns.length) F N ?_ ?_
    · exact ⟨_, _, _, _, rfl, rfl, rfl, rfl, by omega, by omega, by omega, by omega, rfl, fun i hi => by omega, fun i h1 h2 => by omega⟩
    · rintro n m₁ news₁ h₂ tk₂ F₂ N₂ ⟨lo, hi, t1, t2, e1, e2, e3, e4, c1, c2, c3, rfl, rfl, b1, b2⟩
      (try clear F); (try clear N)
      walk_at "m_steps"
      · rename Fr _ _ _ _ => F9
        rename News _ _ _ _ => N9
        have hm := mid_b (lo := lo) (hi := hi) (by assumption)
        exact WhileStep.intro F9 N9 (n' := (hi - ((lo + hi).fdiv 2 + 1)).toNat) (by omega) ⟨_, _, _, _, rfl, e2, e3, e4, by omega, by omega, by omega, rfl, rfl, bl_up hs c1 (by assumption) c3 (by assumption), b2⟩
      · rename Fr _ _ _ _ => F9
        rename News _ _ _ _ => N9
        have hm := mid_b (lo := lo) (hi := hi) (by assumption)
        exact WhileStep.intro F9 N9 (n' := ((lo + hi).fdiv 2 - lo).toNat) (by omega) ⟨_, _, _, _, e1, rfl, e3, e4, by omega, by omega, by omega, rfl, rfl, b1, bl_dn hs c1 (by assumption) c3 (by assumption)⟩
      · exact ⟨_, _, rfl, ⟨_, _, rfl, F₂.keep⟩, bl_end c1 c2 (by assumption) c3 b1 b2⟩

section
variable {M : Model} {A : Around} {E : Value → Shared → Prop} {s : Shared} {Q : Value → Shared → Prop} {f : Addr} {pos : List Value} {kw : List (Str × Value)} {P : Int → Prop}
theorem call_int (hc : codeAny M A (.call (.ref f) ⟨pos, kw⟩) (fun r s' => Ends (∃ v t, r = .ok (.ret (.int v t)) ∧ Keeps s s' ∧ P v)) s)
    (h : ∀ v t h' tk, P v → (∀ b o, s.heap.get? b = some o → h'.get? b = some o) → Q (.int v t) { s with heap := h', toks := tk }) : wpAny M A (call (.ref f) pos kw) Q E s := by
  refine wpAny_call (codeAny_mono hc ?_)
  rintro r s' ⟨v, t, rfl, ⟨h', tk, rfl, hk⟩, hp⟩
  exact h v t h' tk hp hk
theorem ends_of {P Q : Prop} (h : P → Q) (e : Ends P) : Ends Q := h e
end
/-- `h` without the object at `l` -/
theorem Lies.hide {h : Heap} {l : Addr} {o : Obj} (e : h.get? l = some o) : Lies (hideAll h [l]) h [(l, o)] :=
  ⟨fun b o' e' => of_hideAll _ e', Nat.le_of_eq (hideAll_size _ _), fun p hp => by rw [List.mem_singleton.mp hp]; exact ⟨e, hideAll_none _ (List.mem_singleton.mpr rfl)⟩⟩
theorem hide_sub {h₀ h : Heap} {l : Addr} (k : ∀ b o, h₀.get? b = some o → h.get? b = some o) (hl : h₀.get? l = none) : ∀ b o, h₀.get? b = some o → (hideAll h [l]).get? b = some o :=
  fun b o e => hideAll_get _ (k b o e) fun hm => by rw [List.mem_singleton.mp hm, hl] at e; cases e
local macro_rules | `(tactic| walk_at "call ref") => `(tactic| (k_here; (with_reducible rename Fr _ _ _ _ => F9); (with_reducible rename News _ _ _ _ => N9); k_dflt (refine call_int (bl4_c (w := _) (ns := _) (Frag.In.keeps (by assumption) (Fr.keep F9)) (Top.keeps (by assumption) (Fr.keep F9)) (News.isList N9 (.head _)) (by assumption) (by assumption) (by (dsimp only [AA]); omega) (by (dsimp only [AA]); omega) (by assumption)) ?_); intro v' t' h' tk' hP' hk'; (have F' := Fr.keeps F9 hk'); (have N' := News.grown N9 hk'); clear hk'; k_sweep; (try dsimp only)))
theorem ints_take : ∀ {vs : List Value} {ns : List Int} (n : Nat), IntsAre vs ns → IntsAre (vs.take n) (ns.take n)
  | _, _, 0, _ => by simp only [List.take_zero]; exact .nil
  | _, _, _ + 1, .nil => .nil
  | _, _, n + 1, .cons k t r => .cons k t (ints_take n r)
theorem ints_drop : ∀ {vs : List Value} {ns : List Int} (n : Nat), IntsAre vs ns → IntsAre (vs.drop n) (ns.drop n)
  | _, _, 0, h => h
  | _, _, _ + 1, .nil => .nil
  | _, _, n + 1, .cons _ _ r => ints_drop n r
theorem ints_ins {vs : List Value} {ns : List Int} {x v : Int} {t : Tok} (h : IntsAre vs ns) (h0 : 0 ≤ v) (h1 : v ≤ ns.length) : IntsAre (kl_ins vs v (.int x t)) (ns.take v.toNat ++ x :: ns.drop v.toNat) := by
  have e : vs.length = ns.length := h.length
  unfold kl_ins
  rw [if_neg (by omega), Nat.min_eq_left (by omega)]
  exact IntsAre.append (ints_take _ h) (.cons x t (ints_drop _ h))
theorem fits_small {v : Int} (h0 : 0 ≤ v) (h1 : v ≤ 63) : Builtin.List.listFitsIndex v = true := by
  unfold Builtin.List.listFitsIndex
  simp
  omega
local macro_rules | `(tactic| walk_at "call builtin:list.insert") => `(tactic| (k_here; k_dflt (refine' kl_insert ?F ?N ?f ?e ?U ?z ?_; (case F => k_asm); (case N => k_asm); (case U => k_upd); (case f => (unfold Lb at *; exact fits_small (by omega) (by omega))); (case e => rfl); (case z => (rw [sizeLine_eq]; simp only [List.toList_toArray]; have := IntsAre.length (by assumption); omega))); intro h' F' N'; k_sweep; (try dsimp only)))
theorem insort_c {w : World} {dp un : Nat} {fr : Option (List Env)} {gd : Option (List Code)} {s : Shared} {hc : Heap} {p : Program} {loose : List Str} {mean : ExcName → Option Value} {mg mb : Str → Option Value}
   {l : Addr} {vs : List Value} {ns : List Int} {x : Int} {tx : Tok}
  (X : (Mine.hd.heap_39 w.params).In hc) (T : Top p loose mean mg mb hc) (hk₀ : ∀ b o, hc.get? b = some o → s.heap.get? b = some o) (hl₀ : hc.get? l = none) (hl : s.heap.get? l = some (LCg.lst vs)) (hi : IntsAre vs ns) (hn : ns.length ≤ 63)
  (hd : dp + 20 < recursionLimit) (hu : un + 200 < cLine) (hs : Srt ns) :
  codeAny (model PySem.Challenge.rw_sr0016_01.row.prog w) (AA dp fr gd un) (.call (.ref 49) ⟨[.ref l, .int x tx], []⟩)
    (fun r s' => Ends (r = .ok (.ret .none) ∧ ∃ h' tk ys v, s' = { s with heap := h', toks := tk } ∧ (∀ b o, b ≠ l → s.heap.get? b = some o → h'.get? b = some o) ∧ h'.get? l = some (LCg.lst ys) ∧ Lb ns x v ∧ IntsAre ys (ns.take v.toNat ++ x :: ns.drop v.toNat))) s := by
  have X1 : (Mine.hd.heap_39 w.params).In (hideAll s.heap [l]) := X.keeps (hide_sub hk₀ hl₀)
  have T1 := T.keeps (hide_sub hk₀ hl₀)
  clear X T
  refine' enter (binds := [(Str.ofString "a", .ref l), (Str.ofString "x", .int x tx), (Str.ofString "lo", .int 0 298), (Str.ofString "hi", .none), (Str.ofString "key", .none)]) (Lies.hide hl) ?k1 ?k2 ?k8 ?k6 ?k7 ?k9 ?kB ?_ ?c5 ?c2 ?c3 ?c4
  case k1 => assumption
  case k2 => exact Top.nolimit (by assumption)
  case k8 => (dsimp only [AA]; omega)
  case k6 => k_is
  case k9 => exact binds_peek (Frag.In.keeps X1 (Lies.hide hl).keep) (fun _ => rfl)
  case k7 => k_is
  case kB => exact locs rfl
  case c5 => decide
  case c2 => exact rfl
  case c3 => exact rfl
  case c4 => exact rfl
  intro L' h₁ F N hk hsz
  try dsimp only
  k_fold
  walk_at "m_steps"
  rename Fr _ _ _ _ => F9
  rename News _ _ _ _ => N9
  rename Lb _ _ _ => hP
  refine ⟨rfl, _, _, _, _, rfl, fun b o hb e => F9.keep b o (hideAll_get _ e (fun hm => hb (List.mem_singleton.mp hm))), (N9 _ (.head _)).1.trans ?_, hP, ints_ins (t := tx) hi hP.1 hP.2.1⟩
  rw [← kl_ins_length vs _ (.int x tx)]
end Mine
end
section
open PySem PySem.W PyProof.Rows PySem.Calls PySem.Spec
set_option maxHeartbeats 600000
namespace Mine
local macro_rules | `(tactic| walk_at "m_none") => `(tactic| skip)
section
variable {M : Model} {A : Around} {E : Value → Shared → Prop} {s : Shared} {Q : Value → Shared → Prop} {f : Addr} {pos : List Value} {kw : List (Str × Value)} {P : Int → Prop}
theorem call_int' (hc : codeAny M A (.call (.ref f) ⟨pos, kw⟩) (fun r s' => Ends (∃ v t, r = .ok (.ret (.int v t)) ∧ Keeps s s' ∧ P v)) s)
    (h : ∀ v t h' tk, P v → (∀ b o, s.heap.get? b = some o → h'.get? b = some o) → Q (.int v t) { s with heap := h', toks := tk }) : wpAny M A (call (.ref f) pos kw) Q E s := by
  refine wpAny_call (codeAny_mono hc ?_)
  rintro r s' ⟨v, t, rfl, ⟨h', tk, rfl, hk⟩, hp⟩
  exact h v t h' tk hp hk
end
theorem callWith_F {M : Model} {A : Around} {E : Value → Shared → Prop} {s : Shared} {Q : Value → Shared → Prop} {pos : Pos} {a : Addr} {o : Obj} {fd : FuncData} {h₀ : Heap} {e : Expr} {rest : List Expr} {env : Env} (_ho : h₀.get? a = some o) (_hd : o.data = .func fd)
    (h : wpAny M A (spliced (backTo pos (starEach (e :: rest) env))) (fun vs s₁ => (s₁.heap.get? a = some o ∧ o.data = .func fd) ∧ wpAny M A (call (.ref a) ([] ++ vs)) Q E s₁) E s)
    (he : starEach (e :: rest) env = (false, eval e env) :: starEach rest env := by rfl) (hplain : (backTo pos (starEach rest env)).any (·.1) = false := by rfl) :
    wpAny M A (callWith pos (.ref a) [] (backTo pos (starEach (e :: rest) env)) []) Q E s := by
  rw [he] at h ⊢
  exact callWith_function (evalArgs_plain h)
/-- what a key function answers at the k-th of `ns` -/
def KeyOf (w : World) (h : Heap) (f : Addr) (ns gs : List Int) : Prop :=
  ∀ (dp un : Nat) (fr : Option (List Env)) (gd : Option (List Code)) (s : Shared) (k : Nat) (t : Tok), dp + 5 < recursionLimit → un + 50 < cLine → (∀ b o, h.get? b = some o → s.heap.get? b = some o) → k < ns.length →
    codeAny (model PySem.Challenge.rw_sr0016_01.row.prog w) (AA dp fr gd un) (.call (.ref f) ⟨[.int (ns.getD k 0) t], []⟩) (fun r s' => Ends (∃ v t, r = .ok (.ret (.int v t)) ∧ Keeps s s' ∧ v = gs.getD k 0)) s
theorem KeyOf.use {w : World} {h : Heap} {f : Addr} {ns gs : List Int} {dp un : Nat} {fr : Option (List Env)} {gd : Option (List Code)} {s : Shared} {k : Nat} {t : Tok} (H : KeyOf w h f ns gs) (h1 : dp + 5 < recursionLimit) (h2 : un + 50 < cLine) (h3 : ∀ b o, h.get? b = some o → s.heap.get? b = some o) (h4 : k < ns.length) :
    codeAny (model PySem.Challenge.rw_sr0016_01.row.prog w) (AA dp fr gd un) (.call (.ref f) ⟨[.int (ns.getD k 0) t], []⟩) (fun r s' => Ends (∃ v t, r = .ok (.ret (.int v t)) ∧ Keeps s s' ∧ v = gs.getD k 0)) s := H dp un fr gd s k t h1 h2 h3 h4
/-- the first place above x -/
def Rb (gs : List Int) (x p : Int) : Prop := 0 ≤ p ∧ p ≤ gs.length ∧ (∀ i : Nat, (i : Int) < p → gs.getD i 0 ≤ x) ∧ (∀ i : Nat, p ≤ i → i < gs.length → x < gs.getD i 0)
theorem mid_lt {lo hi : Int} {n : Nat} (h0 : 0 ≤ lo) (h : lo < hi) (h3 : hi ≤ n) : ((lo + hi).fdiv 2).toNat < n := by
  have hm := mid_b h
  omega
theorem br_up {ns : List Int} {lo hi x : Int} (hs : Srt ns) (h0 : 0 ≤ lo) (h : lo < hi) (h3 : hi ≤ ns.length) (hx : ¬ x < ns.getD ((lo + hi).fdiv 2).toNat 0) : ∀ i : Nat, (i : Int) < (lo + hi).fdiv 2 + 1 → ns.getD i 0 ≤ x := by
  intro i h4
  have hm := mid_b h
  exact Int.le_trans (hs i ((lo + hi).fdiv 2).toNat (by omega) (by omega)) (Int.not_lt.mp hx)
theorem br_dn {ns : List Int} {lo hi x : Int} (hs : Srt ns) (h0 : 0 ≤ lo) (h : lo < hi) (h3 : hi ≤ ns.length) (hx : x < ns.getD ((lo + hi).fdiv 2).toNat 0) : ∀ i : Nat, (lo + hi).fdiv 2 ≤ (i : Int) → i < ns.length → x < ns.getD i 0 := by
  intro i h4 h5
  have hm := mid_b h
  exact Int.lt_of_lt_of_le hx (hs ((lo + hi).fdiv 2).toNat i (by omega) h5)
theorem br_end {ns : List Int} {lo hi x : Int} (h0 : 0 ≤ lo) (h2 : lo ≤ hi) (h : ¬ lo < hi) (h3 : hi ≤ ns.length) (b1 : ∀ i : Nat, (i : Int) < lo → ns.getD i 0 ≤ x) (b2 : ∀ i : Nat, hi ≤ i → i < ns.length → x < ns.getD i 0) : Rb ns x lo :=
  ⟨h0, by omega, b1, fun i h5 h6 => b2 i (by omega) h6⟩
local macro_rules | `(tactic| walk_at "call ref") => `(tactic| (k_here; (with_reducible rename Fr _ _ _ _ => F9); (with_reducible rename News _ _ _ _ => N9); k_dflt (refine call_int' (KeyOf.use (by assumption) (by (dsimp only [AA]); omega) (by (dsimp only [AA]); omega) (Fr.keep F9) (mid_lt (by assumption) (by assumption) (by assumption))) ?_); intro v' t' h' tk' hP' hk'; (have F' := Fr.keeps F9 hk'); (have N' := News.grown N9 hk'); clear hk'; k_sweep; subst hP'; (try dsimp only)))
local macro_rules | `(tactic| walk_at "callWith ref") => `(tactic| (k_here; k_dflt (refine callWith_F (h₀ := _) (by assumption) (by assumption) ?_)))
local macro_rules | `(tactic| walk_at "And") => `(tactic| ((refine And.intro ⟨Fr.keep (by assumption) _ _ (by assumption), by assumption⟩ ?_); (try simp only [List.nil_append]); (try dsimp only)))
theorem br_c {w : World} {dp un : Nat} {fr : Option (List Env)} {gd : Option (List Code)} {s : Shared} {p : Program} {loose : List Str} {mean : ExcName → Option Value} {mg mb : Str → Option Value}
   {l f : Addr} {vs : List Value} {ns gs : List Int} {x : Int} {tx : Tok}
  (X : (Mine.hd.heap_39 w.params).In s.heap) (T : Top p loose mean mg mb s.heap) (hl : s.heap.IsList l vs.toArray) (hi : IntsAre vs ns) (hn : ns.length ≤ 63) (hg : gs.length = ns.length) (HK : KeyOf w s.heap f ns gs) {fo : Obj} {fd : FuncData} (hf : s.heap.get? f = some fo) (hfd : fo.data = .func fd)
  (hd : dp + 10 < recursionLimit) (hu : un + 100 < cLine) (hs : Srt gs) :
  codeAny (model PySem.Challenge.rw_sr0016_01.row.prog w) (AA dp fr gd un) (.call (.ref 40) ⟨[.ref l, .int x tx], [(Str.ofString "key", .ref f)]⟩)
    (fun r s' => Ends (∃ v t, r = .ok (.ret (.int v t)) ∧ Keeps s s' ∧ Rb gs x v)) s := by
  refine' enter (binds := [(Str.ofString "a", .ref l), (Str.ofString "x", .int x tx), (Str.ofString "lo", .int 0 284), (Str.ofString "hi", .none), (Str.ofString "key", .ref f)]) (Lies.all s.heap) ?k1 ?k2 ?k8 ?k6 ?k7 ?k9 ?kB ?_ ?c5 ?c2 ?c3 ?c4
  walk_at "m_entered"
  intro L' h₁ F N hk hsz
  try dsimp only
  k_fold
  walk_at "m_to_while"
  · (try clear F); (try clear N)
    rename Fr _ _ _ _ => F
    rename News _ _ _ _ => N
    refine While_inv (fun n m news => ∃ lo hi t1 t2, m "lo" = some (.int lo t1) ∧ m "hi" = some (.int hi t2) ∧ m "a" = some (.ref l) ∧ m "x" = some (.int x tx) ∧ m "key" = some (.ref f) ∧ 0 ≤ lo ∧ lo ≤ hi ∧ hi ≤ ns.length ∧ n = (hi - lo).toNat ∧ news = [] ∧
      (∀ i : Nat, (i : Int) < lo → gs.getD i 0 ≤ x) ∧ (∀ i : Nat, hi ≤ i → i < gs.length → x < gs.getD i 0)) (n₀ := ns.length) F N ?_ ?_
    · exact ⟨_, _, _, _, rfl, rfl, rfl, rfl, rfl, by omega, by omega, by omega, by omega, rfl, fun i hi => by omega, fun i h1 h2 => by omega⟩
    · rintro n m₁ news₁ h₂ tk₂ F₂ N₂ ⟨lo, hi, t1, t2, e1, e2, e3, e4, e5, c1, c2, c3, rfl, rfl, b1, b2⟩
      (try clear F); (try clear N)
      walk_at "m_steps"
      · rename Fr _ _ _ _ => F9
        rename News _ _ _ _ => N9
        have hm := mid_b (lo := lo) (hi := hi) (by assumption)
        exact WhileStep.intro F9 N9 (n' := ((lo + hi).fdiv 2 - lo).toNat) (by omega) ⟨_, _, _, _, e1, rfl, e3, e4, e5, by omega, by omega, by omega, rfl, rfl, b1, br_dn hs c1 (by assumption) (by omega) (by assumption)⟩
      · rename Fr _ _ _ _ => F9
        rename News _ _ _ _ => N9
        have hm := mid_b (lo := lo) (hi := hi) (by assumption)
        exact WhileStep.intro F9 N9 (n' := (hi - ((lo + hi).fdiv 2 + 1)).toNat) (by omega) ⟨_, _, _, _, rfl, e2, e3, e4, e5, by omega, by omega, by omega, rfl, rfl, br_up hs c1 (by assumption) (by omega) (by assumption), b2⟩
      · exact ⟨_, _, rfl, ⟨_, _, rfl, F₂.keep⟩, br_end c1 c2 (by assumption) (by omega) b1 b2⟩
end Mine
end
section
open PySem PySem.W PyProof.Rows PySem.Calls PySem.Spec
set_option maxHeartbeats 600000
namespace Mine
section
variable {prog : Program} {w : World} {A : Around} {s : Shared} {R : Result → Shared → Prop} {E : Value → Shared → Prop}
/-- a lambda's call, all of the heap kept -/
theorem enterE {name qual : Str} {params : Arguments} {body : Expr} {scope : Scope} {cl : List (Str × Addr)} {pm ctv : Value} {c' f : Addr} {args : Args} {binds : List (Str × Value)}
    (hlim : s.heap.NoLimit) (ho : s.heap.get? f = some (kla_obj name qual params body scope cl pm c' ctv)) (hcd : s.heap.CodeRec (.ref c') qual) (hroom : A.depth < recursionLimit)
    (hbind : bindArgs (kla_fn name qual params body scope cl pm (.ref c') ctv) args = pure binds) (hloc : ∀ y ∈ binds, scope.names.lookup y.1 = some .local)
    (h : ∀ L' h₁, Fr s.heap L' h₁ (fun y => binds.reverse.lookup y) → News s.heap L' h₁ [] →
      wpAny (model prog w) (A.deeper (envX qual scope L' f (.ref c') cl)) (eval body (envX qual scope L' f (.ref c') cl)) (fun v s' => R (.ok (.ret v)) s') (fun _ _ => False) { s with heap := h₁, toks := s.toks + binds.length })
    (hco : scope.isCoroutine = false) (hgen : scope.isGenerator = false) (hk : scope.kind = .function) (hcell : ∀ x ∈ scope.names, x.2 ≠ .cell) :
    codeAny (model prog w) A (.call (.ref f) args) R s := by
  refine kla_callFunE hroom ho rfl hco hgen rfl hcd ?_
  rw [hbind]
  refine wpAny_pure (wpAny_newFunctionEnv hcell hloc (fun h₁ hns hsb => ⟨hlim.fresh _ hsb, ?_⟩) hk)
  show codeAny _ _ (.expr body (envX qual scope s.heap.objs.size f (.ref c') cl)) _ _
  have hk₁ : ∀ b o, s.heap.get? b = some o → h₁.get? b = some o := fun b o e => hsb.extBut b o (Nat.ne_of_lt (Heap.lt_size e)) (Heap.get?_push_of_some _ e)
  exact kla_codeExpr (wpAny_mono (h _ h₁ ⟨hns, hk₁, Nat.le_refl _⟩ (fun p hp => nomatch hp)) (fun v s' hl => hl) fun _ _ y => y.elim)
theorem ldFree {h₀ : Heap} {L L₁ a c : Addr} {m : Str → Option Value} {cn x : Str} {cs : Scope} {ccd v : Value} {cl : List (Str × Addr)} {o : Obj} {pos : Pos} {Q : Value → Shared → Prop} (F : Fr h₀ L s.heap m) (hc : cl.lookup x = some c) (ho : h₀.get? c = some o) (hd : o.data = .cell (some v)) (h : Q v s)
    (hk : cs.kind = .function := by rfl) (hx : (envX cn cs L₁ a ccd cl).kindOf x = some .free := by rfl) (hb : (x == ("__debug__" : Str)) = false := by decide) (hn : (x == ("__classdict__" : Str)) = false := by decide) :
    wpAny (model prog w) A (eval (.Name x pos) (envX cn cs L₁ a ccd cl)) Q E s := wpAny_Name (wpAny_loadName_free hk hx hc ⟨o, F.keep _ _ ho, hd⟩ h hn) hb
end
local macro_rules | `(tactic| walk_at "m_toLam") => `(tactic| repeat' (first | (k_unfold; (try dsimp only)) | ((fail_if_success (with_reducible show wpAny _ _ (eval (Expr.Lambda _ _ _ _) _) _ _ _)); first | walk1 | (dsimp only; walk1))))
theorem range_getD {n k : Nat} (h : k < n) : (rangeKs 0 n).getD k 0 = (k : Int) := by simp [rangeKs, h]
theorem gs_getD {n k : Nat} (g : Int → Int) (h : k < n) : ((rangeKs 0 n).map g).getD k 0 = g k := by simp [rangeKs, h]
local macro_rules | `(tactic| walk_at "eval Name") => `(tactic| (k_here; k_dflt (refine ldFree (by assumption) (by rfl) (by assumption) (by assumption) ?_)))
def lamQual : Str := Str.ofString "_law_least_free" ++ ".<locals>." ++ Str.ofString "<lambda>"
abbrev tab1 (c' : Addr) : Obj := tabObj #[rawInt 80, rawInt 55, .ref c']
abbrev gsOf (ns : List Int) : List Int := (rangeKs 0 ns.length).map fun k => ns.getD k.toNat 0 - k
theorem lf0_c {w : World} {dp un : Nat} {fr : Option (List Env)} {gd : Option (List Code)} {s : Shared} {hc : Heap} {p : Program} {loose : List Str} {mean : ExcName → Option Value} {mg mb : Str → Option Value}
   {l : Addr} {vs : List Value} {ns : List Int} {ps : Array Value}
  (X : (Mine.hd.heap_39 w.params).In hc) (T : Top p loose mean mg mb hc) (C : CodeHd hc 115 111) (hk₀ : ∀ b o, hc.get? b = some o → s.heap.get? b = some o) (hl₀ : hc.get? 111 = none) (ht : s.heap.get? 111 = some (tabObj #[]))
  (hl : s.heap.get? l = some (LCg.lst vs)) (hl1 : l ≠ 111) (hi : IntsAre vs ns) (hn : ns.length ≤ 63) (hs : Srt ((rangeKs 0 ns.length).map fun k => ns.getD k.toNat 0 - k))
  (hd : dp + 20 < recursionLimit) (hu : un + 200 < cLine) :
  codeAny (model PySem.Challenge.rw_sr0016_01.row.prog w) (AA dp fr gd un) (.call (.ref 116) ⟨[.ref l], []⟩)
    (fun r s' => Ends (∃ v t, r = .ok (.ret (.int v t)) ∧ Rb (gsOf ns) 0 v ∧ ∃ h' tk, s' = { s with heap := h', toks := tk } ∧ (∀ b o, b ≠ 111 → s.heap.get? b = some o → h'.get? b = some o) ∧
      ∃ c' oc vs t, h'.get? 111 = some (tab1 c') ∧ h'.get? c' = some oc ∧ oc.data = .fields vs ∧ vs[1]? = some (.str lamQual t) ∧ s.heap.get? c' = none)) s := by
  have X1 : (Mine.hd.heap_39 w.params).In (hideAll s.heap [111]) := X.keeps (hide_sub hk₀ hl₀)
  have T1 := T.keeps (hide_sub hk₀ hl₀)
  have C1 : CodeHd (hideAll s.heap [111]) 115 111 := C.keeps (hide_sub hk₀ hl₀)
  have hl2 : (hideAll s.heap [111]).IsList l vs.toArray := ⟨_, hideAll_get _ hl (fun hm => hl1 (List.mem_singleton.mp hm)), rfl, _, rfl⟩
  clear X T C
  refine' enterC (binds := [(Str.ofString "held", .ref l)]) (Lies.hide ht) ?k1 ?k2 ?k8 ?k6 ?k7 ?k9 ?kB ?kD ?_ ?c2 ?c3 ?c4
  case k1 => assumption
  case k2 => exact Top.nolimit (by assumption)
  case k8 => (dsimp only [AA]; omega)
  case k6 => k_is
  case k7 => k_is
  case k9 => exact binds_peek (Frag.In.keeps X1 (Lies.hide ht).keep) (fun _ => rfl)
  case c2 => exact rfl
  case c3 => exact rfl
  case c4 => exact rfl
  case kD => decide +kernel
  case kB => exact rfl
  intro L' h₁ tk' cells F N Y hk hsz
  k_cells Y
  (try simp only [List.cons_append, List.nil_append] at N)
  try dsimp only
  (try k_unmd)
  (try k_fold)
  have hvl := hi.length
  walk_at "m_toLam"
  rename Fr _ _ _ _ => F9
  rename News _ _ _ _ => N9
  rename (_ < _ ∧ _ < _) => l19
  have h111 : 111 < L' := Nat.lt_of_lt_of_le (Heap.lt_size ht) hsz
  refine kla_eval rfl ?_
  refine' kla_nest F9 N9 T1 C1 rfl ?uU ?uT ?uN rfl ?_
  case uU => exact UpdF.tail (Nat.ne_of_gt l19.2) (UpdF.tail (Nat.ne_of_gt (Nat.lt_succ_of_lt h111)) (UpdF.head (fun p hp => nomatch hp)))
  case uT => kn_triples
  case uN => kn_among
  intro f' c' oc' vs2 t' ct' h2 tk2 F' N' d1' d2' l1 l2
  (try dsimp only at N')
  clear F9 N9
  walk_at "m_steps"
  have hl3 : h2.IsList l vs.toArray := hl2.at fun o e => F'.keep _ o e
  have hcell := (N' _ (.tail _ (.tail _ (.tail _ (.head _))))).1
  have hfun := (N' _ (.head _)).1
  have hcode := (N' _ (.tail _ (.head _))).1
  have X2 := X1.keeps F'.keep
  have T2 := T1.keeps F'.keep
  rename IntsAre _ (rangeKs _ _) => hI9
  have hR := News.isList N' (.tail _ (.tail _ (.head _)))
  have HK : KeyOf w h2 f' (rangeKs 0 ns.length) ((rangeKs 0 ns.length).map fun k => ns.getD k.toNat 0 - k) := by
    clear F' N' hR
    intro dp' un' fr' gd' s' k t hd' hu' hsub hk'
    rw [rangeKs_length] at hk'
    rw [range_getD hk', gs_getD _ hk']
    have hl4 := hl3.at fun o e => hsub _ o e
    have hcell2 := hsub _ _ hcell
    have hka : (0 : Int) ≤ (k : Int) := by omega
    have hkb : (k : Int) < ns.length := by omega
    refine enterE (binds := [(Str.ofString "k", .int (k : Int) t)]) (T2.nolimit.keeps hsub) (hsub _ _ hfun) ⟨_, _, _, _, rfl, hsub _ _ hcode, d1', d2'⟩ (by (dsimp only [AA]); omega) rfl (locs rfl) ?_ rfl rfl rfl (by decide)
    intro L3 h3 F3 N3
    clear hk hsub
    walk_at "m_steps"
    exact ⟨_, _, rfl, ⟨_, _, rfl, Fr.keep (by assumption)⟩, rfl⟩
  have hI10 := hI9
  rw [show ((ns.length : Int) - 0).toNat = ns.length by omega] at hI10
  refine (call_int' (kw := [(Str.ofString "key", .ref f')]) (br_c X2 T2 hR hI10 (by rw [rangeKs_length]; exact hn) (by rw [List.length_map]) HK hfun rfl (by (dsimp only [AA]); omega) (by (dsimp only [AA]); omega) hs) ?_)
  intro v5 t5 h5 tk5 hR5 hk5
  have F5 := Fr.keeps F' hk5
  have N5 := News.grown N' hk5
  clear F' N'
  walk_at "m_steps"
  refine ⟨_, _, rfl, hR5, _, _, rfl, fun b o hb e => F5.keep b o (hideAll_get _ e (fun hm => hb (List.mem_singleton.mp hm))), c', oc', _, _, (N5 _ (.tail _ (.tail _ (.tail _ (.tail _ (.head _)))))).1, (N5 _ (.tail _ (.head _))).1, d1', d2', ?_⟩
  have := (N5 _ (.tail _ (.head _))).2.2
  cases e : s.heap.get? c' with
  | none => rfl
  | some o' =>
    have hc1 : 111 < c' := l1 _ (.tail _ (.tail _ (.head _)))
    rw [hideAll_get [111] e (fun hm => by rw [List.mem_singleton.mp hm] at hc1; exact Nat.lt_irrefl _ hc1)] at this
    cases this
theorem lf1_c {w : World} {dp un : Nat} {fr : Option (List Env)} {gd : Option (List Code)} {s : Shared} {hc : Heap} {p : Program} {loose : List Str} {mean : ExcName → Option Value} {mg mb : Str → Option Value}
   {l : Addr} {vs : List Value} {ns : List Int} {c' : Addr} {oc' : Obj} {vs3 : Array Value} {t' : Tok}
  (X : (Mine.hd.heap_39 w.params).In hc) (T : Top p loose mean mg mb hc) (C : CodeHd hc 115 111) (hk₀ : ∀ b o, hc.get? b = some o → s.heap.get? b = some o) (hl₀ : hc.get? 111 = none) (ht : s.heap.get? 111 = some (tab1 c')) (hc1 : s.heap.get? c' = some oc') (d1' : oc'.data = .fields vs3) (d2' : vs3[1]? = some (.str lamQual t')) (hc2 : c' ≠ 111)
  (hl : s.heap.get? l = some (LCg.lst vs)) (hl1 : l ≠ 111) (hi : IntsAre vs ns) (hn : ns.length ≤ 63) (hs : Srt ((rangeKs 0 ns.length).map fun k => ns.getD k.toNat 0 - k))
  (hd : dp + 20 < recursionLimit) (hu : un + 200 < cLine) :
  codeAny (model PySem.Challenge.rw_sr0016_01.row.prog w) (AA dp fr gd un) (.call (.ref 116) ⟨[.ref l], []⟩)
    (fun r s' => Ends (∃ v t, r = .ok (.ret (.int v t)) ∧ Rb (gsOf ns) 0 v ∧ ∃ h' tk, s' = { s with heap := h', toks := tk } ∧ (∀ b o, b ≠ 111 → s.heap.get? b = some o → h'.get? b = some o) ∧
      h'.get? 111 = some (tab1 c'))) s := by
  have X1 : (Mine.hd.heap_39 w.params).In (hideAll s.heap [111]) := X.keeps (hide_sub hk₀ hl₀)
  have T1 := T.keeps (hide_sub hk₀ hl₀)
  have C1 : CodeHd (hideAll s.heap [111]) 115 111 := C.keeps (hide_sub hk₀ hl₀)
  have hl2 : (hideAll s.heap [111]).IsList l vs.toArray := ⟨_, hideAll_get _ hl (fun hm => hl1 (List.mem_singleton.mp hm)), rfl, _, rfl⟩
  clear X T C
  refine' enterC (binds := [(Str.ofString "held", .ref l)]) (Lies.hide ht) ?k1 ?k2 ?k8 ?k6 ?k7 ?k9 ?kB ?kD ?_ ?c2 ?c3 ?c4
  case k1 => assumption
  case k2 => exact Top.nolimit (by assumption)
  case k8 => (dsimp only [AA]; omega)
  case k6 => k_is
  case k7 => k_is
  case k9 => exact binds_peek (Frag.In.keeps X1 (Lies.hide ht).keep) (fun _ => rfl)
  case c2 => exact rfl
  case c3 => exact rfl
  case c4 => exact rfl
  case kD => decide +kernel
  case kB => exact rfl
  intro L' h₁ tk' cells F N Y hk hsz
  k_cells Y
  (try simp only [List.cons_append, List.nil_append] at N)
  try dsimp only
  (try k_unmd)
  (try k_fold)
  have hvl := hi.length
  walk_at "m_toLam"
  rename Fr _ _ _ _ => F9
  rename News _ _ _ _ => N9
  rename (_ < _ ∧ _ < _) => l19
  have h111 : 111 < L' := Nat.lt_of_lt_of_le (Heap.lt_size ht) hsz
  refine kla_eval rfl ?_
  refine' kla_hit F9 N9 T1 C1 rfl ?uM ?uT ?uN rfl ?_
  case uM => exact .tail _ (.tail _ (.head _))
  case uT => kn_triples
  case uN => kn_hit
  intro f' ct' h2 tk2 F' N' l1
  (try dsimp only at N')
  clear F9 N9
  walk_at "m_steps"
  have hl3 : h2.IsList l vs.toArray := hl2.at fun o e => F'.keep _ o e
  have hcell := (N' _ (.tail _ (.tail _ (.head _)))).1
  have hfun := (N' _ (.head _)).1
  have hcode := F'.keep _ _ (hideAll_get _ hc1 (fun hm => hc2 (List.mem_singleton.mp hm)))
  have X2 := X1.keeps F'.keep
  have T2 := T1.keeps F'.keep
  rename IntsAre _ (rangeKs _ _) => hI9
  have hR := News.isList N' (.tail _ (.head _))
  have HK : KeyOf w h2 f' (rangeKs 0 ns.length) ((rangeKs 0 ns.length).map fun k => ns.getD k.toNat 0 - k) := by
    clear F' N' hR
    intro dp' un' fr' gd' s' k t hd' hu' hsub hk'
    rw [rangeKs_length] at hk'
    rw [range_getD hk', gs_getD _ hk']
    have hl4 := hl3.at fun o e => hsub _ o e
    have hcell2 := hsub _ _ hcell
    have hka : (0 : Int) ≤ (k : Int) := by omega
    have hkb : (k : Int) < ns.length := by omega
    refine enterE (binds := [(Str.ofString "k", .int (k : Int) t)]) (T2.nolimit.keeps hsub) (hsub _ _ hfun) ⟨_, _, _, _, rfl, hsub _ _ hcode, d1', d2'⟩ (by (dsimp only [AA]); omega) rfl (locs rfl) ?_ rfl rfl rfl (by decide)
    intro L3 h3 F3 N3
    clear hk hsub
    walk_at "m_steps"
    exact ⟨_, _, rfl, ⟨_, _, rfl, Fr.keep (by assumption)⟩, rfl⟩
  have hI10 := hI9
  rw [show ((ns.length : Int) - 0).toNat = ns.length by omega] at hI10
  refine (call_int' (kw := [(Str.ofString "key", .ref f')]) (br_c X2 T2 hR hI10 (by rw [rangeKs_length]; exact hn) (by rw [List.length_map]) HK hfun rfl (by (dsimp only [AA]); omega) (by (dsimp only [AA]); omega) hs) ?_)
  intro v5 t5 h5 tk5 hR5 hk5
  have F5 := Fr.keeps F' hk5
  have N5 := News.grown N' hk5
  clear F' N'
  walk_at "m_steps"
  exact ⟨_, _, rfl, hR5, _, _, rfl, fun b o hb e => F5.keep b o (hideAll_get _ e (fun hm => hb (List.mem_singleton.mp hm))), (N5 _ (.tail _ (.tail _ (.tail _ (.head _))))).1⟩
end Mine
end
section
open PySem PySem.W PyProof.Rows PySem.Calls PySem.Spec
namespace Mine
/-- the table of the lambda's code, empty or filled -/
def TabN (nw : List (Addr × Obj)) : Prop := nw = [(111, tabObj #[])] ∨ ∃ c' oc vs t, nw = [(111, tab1 c'), (c', oc)] ∧ oc.data = .fields vs ∧ vs[1]? = some (.str lamQual t) ∧ c' ≠ 111
theorem lf_c {w : World} {dp un : Nat} {fr : Option (List Env)} {gd : Option (List Code)} {s : Shared} {hc : Heap} {p : Program} {loose : List Str} {mean : ExcName → Option Value} {mg mb : Str → Option Value}
   {l : Addr} {vs : List Value} {ns : List Int} {nw : List (Addr × Obj)}
  (X : (Mine.hd.heap_39 w.params).In hc) (T : Top p loose mean mg mb hc) (C : CodeHd hc 115 111) (hk₀ : ∀ b o, hc.get? b = some o → s.heap.get? b = some o) (hl₀ : hc.get? 111 = none) (ht : TabN nw) (hnw : ∀ p ∈ nw, s.heap.get? p.1 = some p.2)
  (hl : s.heap.get? l = some (LCg.lst vs)) (hl1 : l ≠ 111) (hi : IntsAre vs ns) (hn : ns.length ≤ 63) (hs : Srt (gsOf ns))
  (hd : dp + 20 < recursionLimit) (hu : un + 200 < cLine) :
  codeAny (model PySem.Challenge.rw_sr0016_01.row.prog w) (AA dp fr gd un) (.call (.ref 116) ⟨[.ref l], []⟩)
    (fun r s' => Ends (∃ v t, r = .ok (.ret (.int v t)) ∧ Rb (gsOf ns) 0 v ∧ ∃ h' tk, s' = { s with heap := h', toks := tk } ∧ (∀ b o, b ≠ 111 → s.heap.get? b = some o → h'.get? b = some o) ∧
      ∃ nw', TabN nw' ∧ ∀ p ∈ nw', h'.get? p.1 = some p.2 ∧ (p.1 = 111 ∨ p ∈ nw ∨ s.heap.get? p.1 = none))) s := by
  rcases ht with rfl | ⟨c', oc, vs3, t, rfl, d1, d2, hc2⟩
  · refine codeAny_mono (lf0_c (ps := #[]) X T C hk₀ hl₀ (hnw _ (.head _)) hl hl1 hi hn hs hd hu) ?_
    rintro r s' ⟨v, t, rfl, hR, h', tk, rfl, hk, c', oc, vs3, t3, e1, e2, d1, d2, e3⟩
    refine ⟨v, t, rfl, hR, h', tk, rfl, hk, [(111, tab1 c'), (c', oc)], .inr ⟨c', oc, vs3, t3, rfl, d1, d2, ?_⟩, ?_⟩
    · rintro rfl
      rw [hnw _ (.head _)] at e3
      cases e3
    · intro p hp
      rcases List.mem_cons.mp hp with rfl | hp
      · exact ⟨e1, .inl rfl⟩
      · rw [List.mem_singleton.mp hp]; exact ⟨e2, .inr (.inr e3)⟩
  · refine codeAny_mono (lf1_c X T C hk₀ hl₀ (hnw _ (.head _)) (hnw _ (.tail _ (.head _))) d1 d2 hc2 hl hl1 hi hn hs hd hu) ?_
    rintro r s' ⟨v, t3, rfl, hR, h', tk, rfl, hk, e1⟩
    refine ⟨v, t3, rfl, hR, h', tk, rfl, hk, [(111, tab1 c'), (c', oc)], .inr ⟨c', oc, vs3, t, rfl, d1, d2, hc2⟩, ?_⟩
    intro p hp
    rcases List.mem_cons.mp hp with rfl | hp
    · exact ⟨e1, .inl rfl⟩
    · rw [List.mem_singleton.mp hp]; exact ⟨hk _ _ hc2 (hnw _ (.tail _ (.head _))), .inr (.inl (.tail _ (.head _)))⟩
end Mine
end
section
open PySem PySem.W PyProof.Rows PySem.Calls PySem.Spec
namespace Mine
def xr (a b : Nat) : Int := Builtin.bitXor (a : Int) (b : Int)
def MexAt (fs gs : List Int) (x : Nat) : Prop := 0 ≤ gs.getD x 0 ∧ (∀ y, y < x → fs.getD (xr x y).toNat 0 = 1 → gs.getD y 0 ≠ gs.getD x 0) ∧ ∀ u : Int, 0 ≤ u → u < gs.getD x 0 → ∃ y, y < x ∧ fs.getD (xr x y).toNat 0 = 1 ∧ gs.getD y 0 = u
def HeldAt (fs gs hs : List Int) (x y : Nat) : Prop := hs.length ≤ y ∧ (∀ i j, i < j → j < hs.length → hs.getD i 0 < hs.getD j 0) ∧ ∀ v, v ∈ hs ↔ ∃ y', y' < y ∧ fs.getD (xr x y').toNat 0 = 1 ∧ gs.getD y' 0 = v
theorem xr16 : ∀ x : Fin 16, ∀ y : Fin 16, xr x.val y.val = ((x.val ^^^ y.val : Nat) : Int) ∧ (x.val ^^^ y.val) < 16 := by decide +kernel
theorem xr_eq {x y : Nat} (hx : x < 16) (hy : y < 16) : xr x y = ((x ^^^ y : Nat) : Int) ∧ x ^^^ y < 16 := xr16 ⟨x, hx⟩ ⟨y, hy⟩
theorem xr_lo {x y : Nat} (hx : x < 16) (hy : y < x) : 0 ≤ xr x y := by
  have := (xr_eq hx (Nat.lt_trans hy hx)).1
  omega
theorem xr_hi {x y : Nat} (hx : x < 16) (hy : y < x) : xr x y < 16 := by
  have := xr_eq hx (Nat.lt_trans hy hx)
  omega
theorem allLt_mem {x : Addr} : ∀ {l : List (Addr × Obj)}, AllLt x l → ∀ p ∈ l, p.1 < x
  | [], _, _, hp => nomatch hp
  | _ :: _, h, p, hp => by
    rcases List.mem_cons.mp hp with rfl | hp
    · exact h.1
    · exact allLt_mem h.2 p hp
theorem held0 (fs gs : List Int) (x : Nat) : HeldAt fs gs [] x 0 := ⟨Nat.le_refl _, fun i j _ h => absurd h (Nat.not_lt_zero _), fun v => ⟨(fun h => nomatch h), fun h => by obtain ⟨y, h, _⟩ := h; exact absurd h (Nat.not_lt_zero _)⟩⟩
theorem held_srt {fs gs hs : List Int} {x y : Nat} (h : HeldAt fs gs hs x y) : Srt hs := by
  intro i j hij hj
  rcases Nat.lt_or_eq_of_le hij with h1 | rfl
  · exact Int.le_of_lt (h.2.1 i j h1 hj)
  · exact Int.le_refl _
theorem mem_getD {hs : List Int} {v : Int} : v ∈ hs ↔ ∃ i, i < hs.length ∧ hs.getD i 0 = v := by
  rw [List.mem_iff_getElem]
  constructor
  · rintro ⟨i, h, e⟩
    exact ⟨i, h, by rw [List.getD_eq_getElem?_getD, List.getElem?_eq_getElem h]; exact e⟩
  · rintro ⟨i, h, e⟩
    refine ⟨i, h, ?_⟩
    rw [List.getD_eq_getElem?_getD, List.getElem?_eq_getElem h] at e
    exact e
theorem ins_getD {hs : List Int} {g : Int} {v : Nat} (hv : v ≤ hs.length) (i : Nat) : (hs.take v ++ g :: hs.drop v).getD i 0 = if i < v then hs.getD i 0 else if i = v then g else hs.getD (i - 1) 0 := by
  simp only [List.getD_eq_getElem?_getD]
  by_cases h1 : i < v
  · rw [if_pos h1, List.getElem?_append_left (by simp; omega), List.getElem?_take_of_lt h1]
  · rw [if_neg h1, List.getElem?_append_right (by simp; omega)]
    have e : (hs.take v).length = v := by simp; omega
    rw [e]
    by_cases h2 : i = v
    · subst h2; simp
    · rw [if_neg h2]
      obtain ⟨k, hk⟩ : ∃ k, i - v = k + 1 := ⟨i - v - 1, by omega⟩
      rw [hk, List.getElem?_cons_succ, List.getElem?_drop]
      congr 2
      omega
theorem ins_mem {hs : List Int} {g u : Int} {v : Nat} : u ∈ hs.take v ++ g :: hs.drop v ↔ u = g ∨ u ∈ hs := by
  rw [List.mem_append, List.mem_cons]
  conv => rhs; rw [← List.take_append_drop v hs, List.mem_append]
  constructor
  · rintro (h | h | h)
    · exact .inr (.inl h)
    · exact .inl h
    · exact .inr (.inr h)
  · rintro (h | h | h)
    · exact .inr (.inl h)
    · exact .inl h
    · exact .inr (.inr h)
theorem notin {fs gs hs : List Int} {x y : Nat} {g p : Int} (h : HeldAt fs gs hs x y) (hp : Lb hs g p) (hq : p ≠ hs.length → hs.getD p.toNat 0 ≠ g) : ¬ g ∈ hs := by
  intro hm
  obtain ⟨i, hi, e⟩ := mem_getD.mp hm
  obtain ⟨p0, p1, p2, p3⟩ := hp
  by_cases h1 : (i : Int) < p
  · have := p2 i h1; omega
  · have h2 : p.toNat ≤ i := by omega
    have h3 := p3 p.toNat (by omega) (by omega)
    have h4 := held_srt h p.toNat i h2 hi
    exact hq (by omega) (by omega)
theorem held_ins {fs gs hs : List Int} {x y : Nat} {p v : Int} (h : HeldAt fs gs hs x y) (hf : fs.getD (Builtin.bitXor (x : Int) (y : Int)).toNat 0 = 1) (hp : Lb hs (gs.getD (y : Int).toNat 0) p)
    (hq : p ≠ hs.length → hs.getD p.toNat 0 ≠ gs.getD (y : Int).toNat 0) (hv : Lb hs (gs.getD (y : Int).toNat 0) v) :
    HeldAt fs gs (hs.take v.toNat ++ gs.getD (y : Int).toNat 0 :: hs.drop v.toNat) x (y + 1) := by
  have hn := notin h hp hq
  rw [Int.toNat_natCast] at *
  obtain ⟨v0, v1, v2, v3⟩ := hv
  have hvl : v.toNat ≤ hs.length := by omega
  refine ⟨?_, ?_, ?_⟩
  · have := h.1
    simp only [List.length_append, List.length_take, List.length_cons, List.length_drop]
    omega
  · intro i j hij hj
    have hj' : j < hs.length + 1 := by
      simp only [List.length_append, List.length_take, List.length_cons, List.length_drop] at hj
      omega
    rw [ins_getD hvl, ins_getD hvl]
    have lt_of : ∀ k : Nat, (k : Int) < v → hs.getD k 0 < gs.getD y 0 := v2
    have gt_of : ∀ k : Nat, v ≤ k → k < hs.length → gs.getD y 0 < hs.getD k 0 := fun k h1 h2 => by
      have h3 := v3 k h1 h2
      rcases Int.lt_or_eq_of_le h3 with h4 | h4
      · exact h4
      · exact absurd (mem_getD.mpr ⟨k, h2, h4.symm⟩) hn
    by_cases a1 : i < v.toNat
    · rw [if_pos a1]
      by_cases b1 : j < v.toNat
      · rw [if_pos b1]; exact h.2.1 i j hij (by omega)
      · rw [if_neg b1]
        by_cases b2 : j = v.toNat
        · rw [if_pos b2]; exact lt_of i (by omega)
        · rw [if_neg b2]
          exact Int.lt_trans (lt_of i (by omega)) (gt_of (j - 1) (by omega) (by omega))
    · rw [if_neg a1]
      by_cases a2 : i = v.toNat
      · rw [if_pos a2, if_neg (show ¬ j < v.toNat by omega), if_neg (show ¬ j = v.toNat by omega)]; exact gt_of (j - 1) (by omega) (by omega)
      · rw [if_neg a2, if_neg (show ¬ j < v.toNat by omega), if_neg (show ¬ j = v.toNat by omega)]; exact h.2.1 (i - 1) (j - 1) (by omega) (by omega)
  · intro u
    rw [ins_mem, h.2.2 u]
    constructor
    · rintro (rfl | ⟨y', h1, h2, h3⟩)
      · exact ⟨y, Nat.lt_succ_self _, hf, rfl⟩
      · exact ⟨y', Nat.lt_succ_of_lt h1, h2, h3⟩
    · rintro ⟨y', h1, h2, h3⟩
      rcases Nat.lt_succ_iff_lt_or_eq.mp h1 with h4 | rfl
      · exact .inr ⟨y', h4, h2, h3⟩
      · exact .inl h3.symm
theorem held_same {fs gs hs : List Int} {x y : Nat} {p : Int} (h : HeldAt fs gs hs x y) (hp : Lb hs (gs.getD (y : Int).toNat 0) p) (hne : p ≠ hs.length) (hq : hs.getD p.toNat 0 = gs.getD (y : Int).toNat 0) : HeldAt fs gs hs x (y + 1) := by
  rw [Int.toNat_natCast] at *
  refine ⟨Nat.le_succ_of_le h.1, h.2.1, fun u => ?_⟩
  rw [h.2.2 u]
  constructor
  · rintro ⟨y', h1, h2, h3⟩
    exact ⟨y', Nat.lt_succ_of_lt h1, h2, h3⟩
  · rintro ⟨y', h1, h2, h3⟩
    rcases Nat.lt_succ_iff_lt_or_eq.mp h1 with h4 | rfl
    · exact ⟨y', h4, h2, h3⟩
    · have := hp.1
      have := hp.2.1
      have hm : u ∈ hs := mem_getD.mpr ⟨p.toNat, by omega, by rw [hq, h3]⟩
      exact (h.2.2 u).mp hm
theorem held_skip {fs gs hs : List Int} {x y : Nat} (h : HeldAt fs gs hs x y) (hf : fs.getD (Builtin.bitXor (x : Int) (y : Int)).toNat 0 ≠ 1) : HeldAt fs gs hs x (y + 1) := by
  refine ⟨Nat.le_succ_of_le h.1, h.2.1, fun u => ?_⟩
  rw [h.2.2 u]
  constructor
  · rintro ⟨y', h1, h2, h3⟩
    exact ⟨y', Nat.lt_succ_of_lt h1, h2, h3⟩
  · rintro ⟨y', h1, h2, h3⟩
    rcases Nat.lt_succ_iff_lt_or_eq.mp h1 with h4 | rfl
    · exact ⟨y', h4, h2, h3⟩
    · exact absurd h2 hf
theorem gsOf_getD {hs : List Int} {i : Nat} (h : i < hs.length) : (gsOf hs).getD i 0 = hs.getD i 0 - i := by
  unfold gsOf
  rw [gs_getD _ h, Int.toNat_natCast]
theorem gsOf_len (hs : List Int) : (gsOf hs).length = hs.length := by simp [gsOf, rangeKs]
theorem held_gs {fs gs hs : List Int} {x y : Nat} (h : HeldAt fs gs hs x y) : Srt (gsOf hs) := by
  intro i j hij hj
  rw [gsOf_len] at hj
  rw [gsOf_getD (by omega), gsOf_getD hj]
  induction j with
  | zero => have : i = 0 := by omega
            subst this; exact Int.le_refl _
  | succ j ih =>
    rcases Nat.lt_or_eq_of_le hij with h1 | rfl
    · have h2 := ih (by omega) (by omega)
      have h3 := h.2.1 j (j + 1) (Nat.lt_succ_self _) hj
      omega
    · exact Int.le_refl _
theorem snoc_getD {gs : List Int} {v : Int} {i : Nat} (h : i < gs.length) : (gs ++ [v]).getD i 0 = gs.getD i 0 := by
  simp only [List.getD_eq_getElem?_getD, List.getElem?_append_left h]
theorem snoc_last {gs : List Int} {v : Int} : (gs ++ [v]).getD gs.length 0 = v := by simp
theorem mex_snoc {fs gs hs : List Int} {x : Nat} {v : Int} (h : HeldAt fs gs hs x x) (hl : gs.length = x) (hM : ∀ x', x' < x → MexAt fs gs x') (hv : Rb (gsOf hs) 0 v) : ∀ x', x' < x + 1 → MexAt fs (gs ++ [v]) x' := by
  subst hl
  have pos : ∀ i, i < hs.length → (i : Int) ≤ hs.getD i 0 := by
    intro i hi
    induction i with
    | zero =>
      obtain ⟨y, h1, _, h3⟩ := (h.2.2 (hs.getD 0 0)).mp (mem_getD.mpr ⟨0, hi, rfl⟩)
      rw [← h3]; exact (hM y h1).1
    | succ i ih =>
      have h1 := ih (by omega)
      have h2 := h.2.1 i (i + 1) (Nat.lt_succ_self _) hi
      omega
  obtain ⟨v0, v1, v2, v3⟩ := hv
  rw [gsOf_len] at v1
  have lo : ∀ i : Nat, (i : Int) < v → hs.getD i 0 = i := fun i hi => by
    have h1 := v2 i hi
    rw [gsOf_getD (by omega)] at h1
    have := pos i (by omega)
    omega
  have hi' : ∀ i : Nat, v ≤ i → i < hs.length → (i : Int) < hs.getD i 0 := fun i h1 h2 => by
    have h3 := v3 i h1 (by rw [gsOf_len]; exact h2)
    rw [gsOf_getD h2] at h3
    omega
  intro x' hx'
  rcases Nat.lt_succ_iff_lt_or_eq.mp hx' with h1 | rfl
  · have M := hM x' h1
    refine ⟨by rw [snoc_getD h1]; exact M.1, fun y hy hf => ?_, fun u hu hu' => ?_⟩
    · rw [snoc_getD h1, snoc_getD (by omega)]; exact M.2.1 y hy hf
    · rw [snoc_getD h1] at hu'
      obtain ⟨y, hy, e1, e2⟩ := M.2.2 u hu hu'
      exact ⟨y, hy, e1, by rw [snoc_getD (by omega)]; exact e2⟩
  · refine ⟨by rw [snoc_last]; exact v0, fun y hy hf e => ?_, fun u hu hu' => ?_⟩
    · rw [snoc_last, snoc_getD hy] at e
      obtain ⟨i, hi, e2⟩ := mem_getD.mp ((h.2.2 v).mpr ⟨y, hy, hf, e⟩)
      by_cases h2 : (i : Int) < v
      · have := lo i h2; omega
      · have := hi' i (by omega) hi; omega
    · rw [snoc_last] at hu'
      have h2 := lo u.toNat (by omega)
      have h3 : u ∈ hs := mem_getD.mpr ⟨u.toNat, by omega, by omega⟩
      obtain ⟨y, hy, e1, e2⟩ := (h.2.2 u).mp h3
      exact ⟨y, hy, e1, by rw [snoc_getD hy]; exact e2⟩
end Mine
end
section
open PySem PySem.W PyProof.Rows PySem.Calls PySem.Spec
set_option maxHeartbeats 600000
namespace Mine
local macro_rules | `(tactic| k_all) => `(tactic| assumption)
def OffA (l : List (Addr × Obj)) (G : Addr) : Prop := ∀ p ∈ l, p.1 ≠ G
theorem TabN.mem {nw : List (Addr × Obj)} (h : TabN nw) : ∃ o, (111, o) ∈ nw := by
  rcases h with rfl | ⟨c', oc, vs3, t, rfl, _⟩
  · exact ⟨_, .head _⟩
  · exact ⟨_, .head _⟩
theorem TabN.grown {nw : List (Addr × Obj)} {h : Heap} (hT : TabN nw) (N : ∀ p ∈ nw, h.get? p.1 = some p.2) : GrownAt 111 h := by
  rcases hT with rfl | ⟨c', oc, vs3, t, rfl, _⟩
  · exact ⟨_, N _ (.head _)⟩
  · exact ⟨_, N _ (.head _)⟩
section
variable {w : World} {dp un : Nat} {fr : Option (List Env)} {gd : Option (List Code)} {s : Shared} {h₀ : Heap} {p : Program} {loose : List Str} {mean : ExcName → Option Value} {mg mb : Str → Option Value} {L : Addr} {m : Str → Option Value} {Q E : Value → Shared → Prop}
theorem lf_call {Hd I G : Addr} {hv : List Value} {hq : List Int} {oI oG : Obj} {nw : List (Addr × Obj)} (X : (Mine.hd.heap_39 w.params).In h₀) (T : Top p loose mean mg mb h₀) (C : CodeHd h₀ 115 111) (hg : h₀.get? 111 = none)
    (F : Fr h₀ L s.heap m) (N : News h₀ L s.heap ((Hd, LCg.lst hv) :: (I, oI) :: (G, oG) :: nw)) (hT : TabN nw) (d1 : ∀ p ∈ nw, p.1 ≠ Hd) (d2 : ∀ p ∈ nw, p.1 ≠ I) (d3 : ∀ p ∈ nw, p.1 ≠ G) (hi : IntsAre hv hq) (hn : hq.length ≤ 63) (hs : Srt (gsOf hq))
    (hd : dp + 20 < recursionLimit) (hu : un + 200 < cLine)
    (h : ∀ v t h' tk nw', Rb (gsOf hq) 0 v → TabN nw' → OffA nw' G → OffA nw' I → Fr h₀ L h' m → News h₀ L h' ((Hd, LCg.lst hv) :: (I, oI) :: (G, oG) :: nw') → Q (.int v t) { s with heap := h', toks := tk }) :
    wpAny (model PySem.Challenge.rw_sr0016_01.row.prog w) (AA dp fr gd un) (call (.ref 116) [.ref Hd]) Q E s := by
  obtain ⟨o, hm⟩ := hT.mem
  have a1 : Hd ≠ 111 := Ne.symm (d1 _ hm)
  have a2 : I ≠ 111 := Ne.symm (d2 _ hm)
  have a3 : G ≠ 111 := Ne.symm (d3 _ hm)
  have aL : L ≠ 111 := Ne.symm (N _ (.tail _ (.tail _ (.tail _ hm)))).2.1
  refine wpAny_call (codeAny_mono (lf_c X T C F.keep hg hT (fun p hp => (N p (.tail _ (.tail _ (.tail _ hp)))).1) (N _ (.head _)).1 a1 hi hn hs hd hu) ?_)
  rintro r s' ⟨v, t, rfl, hR, h', tk, rfl, hk, nw', hT', hnw'⟩
  have get1 : ∀ {b : Addr} {o : Obj}, s.heap.get? b = some o → ∀ q ∈ nw', (∀ r ∈ nw, r.1 ≠ b) → b ≠ 111 → q.1 ≠ b := fun {b o} e q hq hr hb => by
    rcases (hnw' q hq).2 with h1 | h1 | h1
    · rw [h1]; exact Ne.symm hb
    · exact hr q h1
    · rintro rfl; rw [e] at h1; cases h1
  refine h v t h' tk nw' hR hT' (fun q hq => get1 (N _ (.tail _ (.tail _ (.head _)))).1 q hq d3 a3) (fun q hq => get1 (N _ (.tail _ (.head _))).1 q hq d2 a2)
    (LCg.fr_but F (fun b o hb => hk b o (fun e => hb (List.mem_singleton.mpr e))) aL hg) ?_
  intro q hq
  rcases List.mem_cons.mp hq with rfl | hq
  · exact ⟨hk _ _ a1 (N _ (.head _)).1, (N _ (.head _)).2⟩
  rcases List.mem_cons.mp hq with rfl | hq
  · exact ⟨hk _ _ a2 (N _ (.tail _ (.head _))).1, (N _ (.tail _ (.head _))).2⟩
  rcases List.mem_cons.mp hq with rfl | hq
  · exact ⟨hk _ _ a3 (N _ (.tail _ (.tail _ (.head _)))).1, (N _ (.tail _ (.tail _ (.head _)))).2⟩
  refine ⟨(hnw' q hq).1, ?_⟩
  rcases (hnw' q hq).2 with h1 | h1 | h1
  · rw [h1]; exact ⟨Ne.symm aL, hg⟩
  · exact (N q (.tail _ (.tail _ (.tail _ h1)))).2
  · refine ⟨fun e => ?_, ?_⟩
    · obtain ⟨_, _, _, e2, _⟩ := F.ns
      rw [← e, h1] at e2; cases e2
    · cases e : h₀.get? q.1 with
      | none => rfl
      | some o' => rw [F.keep _ _ e] at h1; cases h1
theorem ins_call {Hd I2 : Addr} {hv : List Value} {hs : List Int} {o2 : Obj} {nw : List (Addr × Obj)} {x : Int} {tx : Tok} (X : (Mine.hd.heap_39 w.params).In h₀) (T : Top p loose mean mg mb h₀)
    (F : Fr h₀ L s.heap m) (N : News h₀ L s.heap ((I2, o2) :: (Hd, LCg.lst hv) :: nw)) (d0 : Hd ≠ I2) (d1 : ∀ p ∈ nw, p.1 ≠ Hd) (hi : IntsAre hv hs) (hn : hs.length ≤ 63) (hsr : Srt hs)
    (hd : dp + 20 < recursionLimit) (hu : un + 200 < cLine)
    (h : ∀ h' tk ys v, Lb hs x v → IntsAre ys (hs.take v.toNat ++ x :: hs.drop v.toNat) → Fr h₀ L h' m → News h₀ L h' ((I2, o2) :: (Hd, LCg.lst ys) :: nw) → Q .none { s with heap := h', toks := tk }) :
    wpAny (model PySem.Challenge.rw_sr0016_01.row.prog w) (AA dp fr gd un) (call (.ref 49) [.ref Hd, .int x tx]) Q E s := by
  have hm := N _ (.tail _ (.head _))
  refine wpAny_call (codeAny_mono (insort_c X T F.keep hm.2.2 hm.1 hi hn hd hu hsr) ?_)
  rintro r s' ⟨rfl, h', tk, ys, v, rfl, hk, hl', hLb, hI⟩
  refine h h' tk ys v hLb hI (LCg.fr_but F (fun b o hb => hk b o (fun e => hb (List.mem_singleton.mpr e))) (Ne.symm hm.2.1) hm.2.2) ?_
  intro q hq
  rcases List.mem_cons.mp hq with rfl | hq
  · exact ⟨hk _ _ (Ne.symm d0) (N _ (.head _)).1, (N _ (.head _)).2⟩
  rcases List.mem_cons.mp hq with rfl | hq
  · exact ⟨hl', hm.2⟩
  · exact ⟨hk _ _ (d1 q hq) (N _ (.tail _ (.tail _ hq))).1, (N _ (.tail _ (.tail _ hq))).2⟩
end
local macro_rules | `(tactic| walk_at "call ref") => `(tactic| (k_here; (with_reducible rename Fr _ _ _ _ => F9); (with_reducible rename News _ _ _ _ => N9); k_dflt (refine call_int (bl_c (Frag.In.keeps (by assumption) (Fr.keep F9)) (Top.keeps (by assumption) (Fr.keep F9)) (News.isList N9 (.tail _ (.head _))) (by assumption) (by assumption) (by (dsimp only [AA]); omega) (by (dsimp only [AA]); omega) (by assumption)) ?_); intro v' t' h' tk' hP' hk'; (have F' := Fr.keeps F9 hk'); (have N' := News.grown N9 hk'); clear hk'; k_sweep; (have q0' := hP'.1); (have q1' := hP'.2.1); (try dsimp only)))
local macro_rules | `(tactic| walk_at "call ref") => `(tactic| (k_here; (with_reducible rename Fr _ _ _ _ => F9); (with_reducible rename News _ _ _ _ => N9); k_dflt (refine ins_call (by assumption) (by assumption) F9 N9 (by assumption) (by assumption) (by assumption) (by assumption) (by assumption) (by (dsimp only [AA]); omega) (by (dsimp only [AA]); omega) ?_); intro h' tk' ys' v' hLb' hI' F' N'; k_sweep; (try dsimp only)))
local macro_rules | `(tactic| walk_at "call ref") => `(tactic| (k_here; (with_reducible rename Fr _ _ _ _ => F9); (with_reducible rename News _ _ _ _ => N9); k_dflt (refine lf_call (by assumption) (by assumption) (by assumption) (by assumption) F9 N9 (by assumption) (by assumption) (by assumption) (by assumption) (by assumption) (by assumption) (by assumption) (by (dsimp only [AA]); omega) (by (dsimp only [AA]); omega) ?_); intro v' t' h' tk' nw' hR' hT' hG' hI' F' N'; k_sweep; (try dsimp only)))
local macro_rules | `(tactic| walk_at "call builtin:list.append") => `(tactic| (k_here; k_dflt (refine' append_K ?k1 ?k2 ?k3 ?_ ?z; (case k1 => k_asm); (case k2 => k_asm); (case k3 => k_upd); (case z => (rw [sizeLine_eq]; simp only [List.size_toArray]; omega)); k_whole); intro h' F' N'; (try k_sweep)))
theorem ch_c {w : World} {dp un : Nat} {fr : Option (List Env)} {gd : Option (List Code)} {s : Shared} {hc : Heap} {p : Program} {loose : List Str} {mean : ExcName → Option Value} {mg mb : Str → Option Value}
   {lf : Addr} {fv : List Value} {fs : List Int}
  (X : (Mine.hd.heap_39 w.params).In hc) (T : Top p loose mean mg mb hc) (C : CodeHd hc 115 111) (hk₀ : ∀ b o, hc.get? b = some o → s.heap.get? b = some o) (hl₀ : hc.get? 111 = none) (ht : s.heap.get? 111 = some (tabObj #[]))
  (hl : s.heap.get? lf = some (LCg.lst fv)) (hl1 : lf ≠ 111) (hi : IntsAre fv fs) (hn : fs.length = 16)
  (hd : dp + 40 < recursionLimit) (hu : un + 300 < cLine) :
  codeAny (model PySem.Challenge.rw_sr0016_01.row.prog w) (AA dp fr gd un) (.call (.ref 123) ⟨[.ref lf], []⟩)
    (fun r s' => Ends (∃ G gv gs, r = .ok (.ret (.ref G)) ∧ ∃ h' tk, s' = { s with heap := h', toks := tk } ∧ (∀ b o, b ≠ 111 → s.heap.get? b = some o → h'.get? b = some o) ∧ s.heap.get? G = none ∧ h'.get? G = some (LCg.lst gv) ∧ IntsAre gv gs ∧ gs.length = 16 ∧ (∀ x, x < 16 → MexAt fs gs x) ∧ GrownAt 111 h')) s := by
  have X1 : (Mine.hd.heap_39 w.params).In (hideAll s.heap [111]) := X.keeps (hide_sub hk₀ hl₀)
  have T1 := T.keeps (hide_sub hk₀ hl₀)
  have C1 : CodeHd (hideAll s.heap [111]) 115 111 := C.keeps (hide_sub hk₀ hl₀)
  have hl2 : (hideAll s.heap [111]).IsList lf fv.toArray := ⟨_, hideAll_get _ hl (fun hm => hl1 (List.mem_singleton.mp hm)), rfl, _, rfl⟩
  have hg111 : (hideAll s.heap [111]).get? 111 = none := hideAll_none _ (List.mem_singleton.mpr rfl)
  clear X T C
  refine' enter (binds := [(Str.ofString "foes", .ref lf)]) (Lies.hide ht) ?k1 ?k2 ?k8 ?k6 ?k7 ?k9 ?kB ?_ ?c5 ?c2 ?c3 ?c4
  case k1 => assumption
  case k2 => exact Top.nolimit (by assumption)
  case k8 => (dsimp only [AA]; omega)
  case k6 => k_is
  case k7 => k_is
  case k9 => exact binds_peek (Frag.In.keeps X1 (Lies.hide ht).keep) (fun _ => rfl)
  case kB => exact locs rfl
  case c5 => decide
  case c2 => exact rfl
  case c3 => exact rfl
  case c4 => exact rfl
  intro L' h₁ F N hk hsz
  try dsimp only
  k_fold
  have h111 : 111 < L' := Nat.lt_of_lt_of_le (Heap.lt_size ht) hsz
  have hvl := hi.length
  walk_at "m_to_for"
  refine For_invV (hideAll s.heap [111]) rfl rfl ?_
  walk_at "m_to_iter"
  rename IsRange _ _ _ _ _ _ _ _ => hR
  rename Fr _ _ _ _ => F1
  rename News _ _ _ _ => N1
  refine rng_loop (n := 16) (fun x m news => m "foes" = some (.ref lf) ∧ ∃ G gv gs tabs, m "got" = some (.ref G) ∧ news = (G, LCg.lst gv) :: tabs ∧ TabN tabs ∧ (∀ p ∈ tabs, p.1 ≠ G) ∧ IntsAre gv gs ∧ gs.length = x ∧ ∀ x', x' < x → MexAt fs gs x') rfl hR (by decide) F1 N1 ?_ ?_ ?_
  · exact ⟨rfl, _, [], [], _, rfl, rfl, .inl rfl, (fun p hp => by rw [List.mem_singleton.mp hp]; exact Nat.ne_of_lt (by assumption)), .nil, rfl, fun x' hx' => absurd hx' (Nat.not_lt_zero _)⟩
  · rintro x t m₁ news₁ I h tk hx ⟨e1, G, gv, gs, tabs, e2, rfl, hT, hG, hI, hgl, hM⟩ hoff F0 N0
    have F : Fr (hideAll s.heap [111]) L' h (fun y => if y = Str.ofString "x" then some (.int (x : Int) t) else m₁ y) := F0
    have N : News (hideAll s.heap [111]) L' h ((I, rngObj ((x : Int) + 1) ((16 : Nat) - ((x : Int) + 1))) :: (G, LCg.lst gv) :: tabs) := N0
    clear F0 N0 F1 N1 hR
    have hIG : G ≠ I := hoff _ (.head _)
    have hIT : ∀ p ∈ tabs, p.1 ≠ I := fun p hp => hoff p (.tail _ hp)
    clear hoff
    walk_at "m_to_for"
    refine For_invV (hideAll s.heap [111]) rfl rfl ?_
    walk_at "m_to_iter"
    rename IsRange _ _ _ _ _ _ _ _ => hR
    rename Fr _ _ _ _ => F1
    rename News _ _ _ _ => N1
    rename (_ < _ ∧ _ < _ ∧ AllLt _ _) => l19
    refine rng_loop (n := x) (fun y m news => m "foes" = some (.ref lf) ∧ m "got" = some (.ref G) ∧ m "x" = some (.int (x : Int) t) ∧ ∃ Hd hv hs, m "held" = some (.ref Hd) ∧ news = (Hd, LCg.lst hv) :: (I, rngObj ((x : Int) + 1) ((16 : Nat) - ((x : Int) + 1))) :: (G, LCg.lst gv) :: tabs ∧ Hd ≠ I ∧ Hd ≠ G ∧ (∀ p ∈ tabs, p.1 ≠ Hd) ∧ IntsAre hv hs ∧ HeldAt fs gs hs x y) rfl hR (by omega) F1 N1 ?_ ?_ ?_
    · refine ⟨e1, e2, rfl, _, [], [], rfl, rfl, Nat.ne_of_gt l19.1, Nat.ne_of_gt l19.2.1, fun p hp => Nat.ne_of_lt (allLt_mem l19.2.2 p hp), .nil, ?_⟩
      exact held0 fs gs x
    · rintro y t2 m₂ news₂ I2 h2 tk2 hy ⟨e3, e4, e5, Hd, hv, hs, e6, rfl, hHI, hHG, hHT, hIh, hH⟩ hoff F0 N0
      have F : Fr (hideAll s.heap [111]) L' h2 (fun z => if z = Str.ofString "y" then some (.int (y : Int) t2) else m₂ z) := F0
      have N : News (hideAll s.heap [111]) L' h2 ((I2, rngObj ((y : Int) + 1) ((x : Nat) - ((y : Int) + 1))) :: (Hd, LCg.lst hv) :: (I, rngObj ((x : Int) + 1) ((16 : Nat) - ((x : Int) + 1))) :: (G, LCg.lst gv) :: tabs) := N0
      clear F0 N0 F1 N1 hR
      have i1 : Hd ≠ I2 := hoff _ (.head _)
      have i2 : I ≠ I2 := hoff _ (.tail _ (.head _))
      have i3 : G ≠ I2 := hoff _ (.tail _ (.tail _ (.head _)))
      have i4 : ∀ p ∈ tabs, p.1 ≠ I2 := fun p hp => hoff p (.tail _ (.tail _ (.tail _ hp)))
      clear hoff
      have hx1 := xr_lo hx hy
      have hx2 := xr_hi hx hy
      unfold xr at hx1 hx2
      have hgv := hI.length
      have hhv := hIh.length
      have hy0 : (0 : Int) ≤ (y : Int) := by omega
      have hy1 : (y : Int) < gs.length := by omega
      have hx3 : Builtin.bitXor (x : Int) (y : Int) < fs.length := by omega
      have hh63 : hs.length ≤ 63 := by have := hH.1; omega
      have hSr := held_srt hH
      have hHr : ∀ p ∈ (I, rngObj ((x : Int) + 1) ((16 : Nat) - ((x : Int) + 1))) :: (G, LCg.lst gv) :: tabs, p.1 ≠ Hd := fun p hp => by
        rcases List.mem_cons.mp hp with rfl | hp
        · exact Ne.symm hHI
        rcases List.mem_cons.mp hp with rfl | hp
        · exact Ne.symm hHG
        · exact hHT p hp
      have hoffs : ∀ (o : Obj), ∀ p ∈ (Hd, o) :: (I, rngObj ((x : Int) + 1) ((16 : Nat) - ((x : Int) + 1))) :: (G, LCg.lst gv) :: tabs, p.1 ≠ I2 := fun o p hp => by
        rcases List.mem_cons.mp hp with rfl | hp
        · exact i1
        rcases List.mem_cons.mp hp with rfl | hp
        · exact i2
        rcases List.mem_cons.mp hp with rfl | hp
        · exact i3
        · exact i4 p hp
      walk_at "m_steps"
      · rename Fr _ _ _ _ => F9
        rename News _ _ _ _ => N9
        rename IntsAre _ (List.take _ _ ++ _) => hI9
        rename (_ = ((hs.length : Nat) : Int)) => aq
        exact TurnEnd.intro F9 N9 (hoffs _) ⟨e3, e4, e5, Hd, _, _, e6, rfl, hHI, hHG, hHT, hI9, held_ins hH (by assumption) (by assumption) (fun e => absurd aq e) (by assumption)⟩
      · rename Fr _ _ _ _ => F9
        rename News _ _ _ _ => N9
        rename IntsAre _ (List.take _ _ ++ _) => hI9
        rename (_ ≠ gs.getD _ _) => aq
        exact TurnEnd.intro F9 N9 (hoffs _) ⟨e3, e4, e5, Hd, _, _, e6, rfl, hHI, hHG, hHT, hI9, held_ins hH (by assumption) (by assumption) (fun _ => aq) (by assumption)⟩
      · rename Fr _ _ _ _ => F9
        rename News _ _ _ _ => N9
        rename (_ = gs.getD _ _) => aq
        exact TurnEnd.intro F9 N9 (hoffs _) ⟨e3, e4, e5, Hd, _, _, e6, rfl, hHI, hHG, hHT, hIh, held_same hH (by assumption) (by assumption) aq⟩
      · rename Fr _ _ _ _ => F9
        rename News _ _ _ _ => N9
        exact TurnEnd.intro F9 N9 (hoffs _) ⟨e3, e4, e5, Hd, _, _, e6, rfl, hHI, hHG, hHT, hIh, held_skip hH (by assumption)⟩
    · rintro m₂ news₂ h2 tk2 ⟨e3, e4, e5, Hd, hv, hs, e6, rfl, hHI, hHG, hHT, hIh, hH⟩ F0 N0
      clear F1 N1
      have F : Fr (hideAll s.heap [111]) L' h2 m₂ := F0
      have N : News (hideAll s.heap [111]) L' h2 ((Hd, LCg.lst hv) :: (I, rngObj ((x : Int) + 1) ((16 : Nat) - ((x : Int) + 1))) :: (G, LCg.lst gv) :: tabs) := N0
      clear F0 N0
      have hh63 : hs.length ≤ 63 := by have := hH.1; omega
      have hgr := held_gs hH
      have hgv := hI.length
      have hgx := hgl
      walk_at "m_steps"
      rename Fr _ _ _ _ => F9
      rename News _ _ _ _ => N9
      rename TabN _ => hT9
      rename Rb _ _ _ => hR9
      rename OffA _ I => hI9
      rename OffA _ G => hG9
      rename_i v9 t9 h8 tk8 nw9
      refine append_K F9 N9 (Upd.tail hHG (Upd.tail (Ne.symm hIG) (Upd.head hG9))) ?_ (by rw [sizeLine_eq]; simp only [List.size_toArray]; omega)
      intro h9 F10 N10
      clear F9 N9
      walk_at "m_steps"
      refine TurnEnd.intro (news₂ := (G, LCg.lst (gv ++ [Value.int v9 t9])) :: nw9) F10 (fun p hp => ?_) (fun p hp => ?_) ⟨e3, G, _, gs ++ [v9], _, e4, rfl, hT9, hG9, IntsAre.append hI (.cons _ _ .nil), by simp [hgl], mex_snoc hH hgl hM hR9⟩
      · rcases List.mem_cons.mp hp with rfl | hp
        · exact N10 _ (.tail _ (.head _))
        rcases List.mem_cons.mp hp with rfl | hp
        · exact LCg.lst_snoc gv (.int v9 t9) ▸ N10 _ (.tail _ (.tail _ (.head _)))
        · exact N10 p (.tail _ (.tail _ (.tail _ hp)))
      · rcases List.mem_cons.mp hp with rfl | hp
        · exact hIG
        · exact hI9 p hp
  · rintro m₁ news₁ h tk ⟨e1, G, gv, gs, tabs, e2, rfl, hT, hG, hI, hgl, hM⟩ F0 N0
    clear F1 N1
    have F : Fr (hideAll s.heap [111]) L' h m₁ := F0
    have N : News (hideAll s.heap [111]) L' h ((G, LCg.lst gv) :: tabs) := N0
    clear F0 N0
    walk_at "m_steps"
    have hG0 := (N _ (.head _)).2.2
    obtain ⟨o3, hm3⟩ := hT.mem
    refine ⟨G, gv, gs, rfl, _, _, rfl, fun b o hb e => F.keep b o (hideAll_get _ e (fun hm => hb (List.mem_singleton.mp hm))), ?_, (N _ (.head _)).1, hI, hgl, hM, ?_⟩
    rotate_left
    · exact TabN.grown hT fun p hp => (N p (.tail _ hp)).1
    cases e : s.heap.get? G with
    | none => rfl
    | some o' =>
      rw [hideAll_get [111] e (fun hm => hG _ hm3 (List.mem_singleton.mp hm).symm)] at hG0
      cases hG0
end Mine
end
section
open PySem PySem.W PyProof.Rows PySem.Calls PySem.Spec
set_option maxHeartbeats 1000000
namespace Mine
section
variable {prog : Program} {w : World} {A : Around} {E : Value → Shared → Prop} {s : Shared} {env : Env} {h₀ : Heap} {target : Expr} {body : List Stmt} {Q : Flow → Shared → Prop}
theorem lst_loop {ax : Addr} {vs : List Value} {k : Nat} {m₀ : Str → Option Value} {news : List (Addr × Obj)} (J : Nat → (Str → Option Value) → List (Addr × Obj) → Prop)
    (hh : A.handled = none) (F : Fr h₀ env.locals s.heap m₀) (N : News h₀ env.locals s.heap news) (hj : J 0 m₀ news)
    (hJm : ∀ i m nw, J i m nw → (ax, ({ cls := .type "list", data := .seq vs.toArray k } : Obj)) ∈ nw)
    (turn : ∀ i v m₁ news₁ I oI h tk, i < vs.length → vs[i]? = some v → J i m₁ news₁ → (∀ p ∈ news₁, p.1 ≠ I) → Fr h₀ env.locals h m₁ → News h₀ env.locals h ((I, oI) :: news₁) →
      wpAny (model prog w) A (assign target env v) (fun _ s₃ => wpAny (model prog w) A (execs body env) (TurnEnd h₀ env.locals I oI (J (i + 1)) { s with heap := h, toks := tk }) E s₃) E { s with heap := h, toks := tk })
    (done : ∀ m₁ news₁ h tk, J vs.length m₁ news₁ → Fr h₀ env.locals h m₁ → News h₀ env.locals h news₁ → Q .next { s with heap := h, toks := tk }) :
    wpAny (model prog w) A (pyIter (.ref ax)) (fun it s₂ => TurnsAt prog w A h₀ env target body Q E it s₂) E s := by
  have hax := N _ (hJm _ _ _ hj)
  have hlt : ax < s.heap.objs.size := Heap.lt_size hax.1
  have hl : s.heap.IsList ax vs.toArray := ⟨_, hax.1, rfl, _, rfl⟩
  refine wpAny_pyIter_list hl ?_
  have up : ∀ b o, s.heap.get? b = some o → (s.heap.push { cls := .type "list_iterator", data := .fields #[.ref ax, .int 0 0] }).get? b = some o := fun b o e => Heap.get?_push_of_some _ e
  have hfree : s.heap.get? s.heap.objs.size = none := Heap.get?_none_of_le (Nat.le_refl _)
  have hfree₀ : h₀.get? s.heap.objs.size = none := by
    cases e : h₀.get? s.heap.objs.size with
    | none => rfl
    | some o => rw [F.keep _ _ e] at hfree; cases hfree
  have hnL : env.locals ≠ s.heap.objs.size := Nat.ne_of_lt F.ns.lt
  refine ⟨s.heap.objs.size, [s.heap.objs.size, ax], [s.heap.objs.size], vs.toArray.size, _, _, _, m₀, news, J, rfl, KTurns.ofWalks (Walks.list hh s.heap.objs.size ax (Nat.ne_of_lt hlt) vs.toArray) (fun i v s Q E st q => letGo_listiter st.1 q), ?_, ?_, ?_, ?_, F.keeps up, N.grown up, hj, ?_, ?_⟩
  · intro hm
    rcases List.mem_cons.mp hm with h | h
    · exact hnL h
    · exact hax.2.1 (List.mem_singleton.mp h).symm
  · intro b hb; rw [List.mem_singleton.mp hb]; exact hfree₀
  · intro p hp hI
    have := (N p hp).1
    rw [List.mem_singleton.mp hI, hfree] at this; cases this
  · exact ⟨⟨_, Heap.get?_push_size _ rfl, rfl, rfl⟩, hl.push _⟩
  · rintro i v m₁ news₁ h₁ tk₁ own hin hv hJ hoff hfp hget hown hst F₁ N₁
    obtain ⟨oI, hoI, _⟩ := hst.1
    have hin' : i < vs.length := by simpa using hin
    have N₂ : News h₀ env.locals h₁ ((s.heap.objs.size, oI) :: news₁) := fun p hp => by
      rcases List.mem_cons.mp hp with rfl | hp
      · exact ⟨hoI, Ne.symm hnL, hfree₀⟩
      · exact N₁ p (List.mem_append_right _ hp)
    refine wpAny_mono (turn i v m₁ news₁ s.heap.objs.size oI h₁ tk₁ hin' (by simpa using hv) hJ (fun p hp q => hoff p hp (by rw [q]; exact .head _)) F₁ N₂) (fun _ s₂ q => wpAny_mono q (fun f s₃ p => ?_) fun _ _ e => e) fun _ _ e => e
    obtain ⟨rfl, h', tk, m₂, news₂, rfl, F', N', hn', hJ'⟩ := p
    refine .next (.intro F' (fun p hp => ?_) (fun p hp => by simpa using hn' p hp) hJ')
    rcases List.mem_append.mp hp with hp | hp
    · have h2 := hget p hp
      rcases List.mem_cons.mp (hfp p hp) with h1 | h1
      · rw [h1, hoI] at h2
        have : p = (s.heap.objs.size, oI) := by rw [← h1]; exact Prod.ext rfl (Option.some.inj h2).symm
        rw [this]
        exact N' _ (.head _)
      · have h1' := List.mem_singleton.mp h1
        have h3 := (N₂ _ (.tail _ (hJm _ _ _ hJ))).1
        rw [h1'] at h2
        have h4 := Option.some.inj (h2.symm.trans h3)
        have : p = (ax, ({ cls := .type "list", data := .seq vs.toArray k } : Obj)) := Prod.ext h1' h4
        rw [this]
        exact N' _ (.tail _ (hJm _ _ _ hJ'))
    · exact N' p (.tail _ hp)
  · rintro h' tk m' news' F' N' _ hJ
    exact done m' news' h' tk (by simpa using hJ) F' N'
theorem lst_loop2 {ax : Addr} {vs : List Value} {k : Nat} {m₀ : Str → Option Value} {rest : List (Addr × Obj)} (J : Nat → (Str → Option Value) → List (Addr × Obj) → Prop)
    (hh : A.handled = none) (F : Fr h₀ env.locals s.heap m₀) (N : News h₀ env.locals s.heap ((ax, ({ cls := .type "list", data := .seq vs.toArray k } : Obj)) :: rest)) (off : ∀ p ∈ rest, p.1 ≠ ax) (hj : J 0 m₀ rest)
    (turn : ∀ i v m₁ news₁ I oI h tk, i < vs.length → vs[i]? = some v → J i m₁ news₁ → (∀ p ∈ news₁, p.1 ≠ ax) → (∀ p ∈ news₁, p.1 ≠ I) → ax ≠ I → Fr h₀ env.locals h m₁ → News h₀ env.locals h ((I, oI) :: (ax, ({ cls := .type "list", data := .seq vs.toArray k } : Obj)) :: news₁) →
      wpAny (model prog w) A (assign target env v) (fun _ s₃ => wpAny (model prog w) A (execs body env) (TurnEnd h₀ env.locals I oI (fun m nw => ∃ r, nw = (ax, ({ cls := .type "list", data := .seq vs.toArray k } : Obj)) :: r ∧ (∀ p ∈ r, p.1 ≠ ax) ∧ J (i + 1) m r) { s with heap := h, toks := tk }) E s₃) E { s with heap := h, toks := tk })
    (done : ∀ m₁ news₁ h tk, J vs.length m₁ news₁ → Fr h₀ env.locals h m₁ → News h₀ env.locals h news₁ → Q .next { s with heap := h, toks := tk }) :
    wpAny (model prog w) A (pyIter (.ref ax)) (fun it s₂ => TurnsAt prog w A h₀ env target body Q E it s₂) E s := by
  refine lst_loop (ax := ax) (vs := vs) (k := k) (fun i m nw => ∃ r, nw = (ax, ({ cls := .type "list", data := .seq vs.toArray k } : Obj)) :: r ∧ (∀ p ∈ r, p.1 ≠ ax) ∧ J i m r) hh F N ⟨rest, rfl, off, hj⟩ ?_ ?_ ?_
  · rintro i m nw ⟨r, rfl, _⟩
    exact .head _
  · rintro i v m₁ nw I oI h tk hi hv ⟨r, rfl, ho, hJ⟩ hoff F₁ N₁
    exact turn i v m₁ r I oI h tk hi hv hJ ho (fun p hp => hoff p (.tail _ hp)) (hoff _ (.head _)) F₁ N₁
  · rintro m₁ nw h tk ⟨r, rfl, ho, hJ⟩ F₁ N₁
    exact done m₁ r h tk hJ F₁ fun p hp => N₁ p (.tail _ hp)
end
end Mine
end
section
open PySem PySem.W PyProof.Rows PySem.Calls PySem.Spec
namespace Mine
def SumTab (fs ts : List Int) (i : Nat) : Prop := ts.length = 2 ^ i ∧ ts.getD 0 0 = 0 ∧ ∀ j, j < i → 0 ≤ ts.getD (2 ^ j) 0 ∧ (∀ r, r < 2 ^ j → ts.getD (2 ^ j + r) 0 = Builtin.bitXor (ts.getD (2 ^ j) 0) (ts.getD r 0)) ∧ (∀ r, r < 2 ^ j → fs.getD (2 ^ j + r) 0 = 1 → ts.getD r 0 ≠ ts.getD (2 ^ j) 0) ∧ (∀ u, 0 ≤ u → u < ts.getD (2 ^ j) 0 → ∃ r, r < 2 ^ j ∧ fs.getD (2 ^ j + r) 0 = 1 ∧ ts.getD r 0 = u)
theorem bx16 : ∀ x : Fin 16, ∀ y : Fin 16, Builtin.bitXor (x.val : Int) (y.val : Int) = ((x.val ^^^ y.val : Nat) : Int) ∧ (x.val ^^^ y.val) < 16 := by decide +kernel
theorem p16 {j : Nat} (h : j < 4) : 2 ^ j < 16 := Nat.pow_lt_pow_right (a := 2) (n := 4) (by decide) h
theorem c16 : ∀ x : Fin 16, x.val = 0 ∨ x.val = 1 ∨ x.val = 2 ∨ x.val = 3 ∨ x.val = 4 ∨ x.val = 5 ∨ x.val = 6 ∨ x.val = 7 ∨ x.val = 8 ∨ x.val = 9 ∨ x.val = 10 ∨ x.val = 11 ∨ x.val = 12 ∨ x.val = 13 ∨ x.val = 14 ∨ x.val = 15 := by decide +kernel
theorem cases16 {x : Nat} (h : x < 16) : x = 0 ∨ x = 1 ∨ x = 2 ∨ x = 3 ∨ x = 4 ∨ x = 5 ∨ x = 6 ∨ x = 7 ∨ x = 8 ∨ x = 9 ∨ x = 10 ∨ x = 11 ∨ x = 12 ∨ x = 13 ∨ x = 14 ∨ x = 15 := c16 ⟨x, h⟩
def tsel (t : Nat → Nat) (x : Nat) : Nat := (bif x.testBit 0 then t 1 else 0) ^^^ ((bif x.testBit 1 then t 2 else 0) ^^^ ((bif x.testBit 2 then t 4 else 0) ^^^ (bif x.testBit 3 then t 8 else 0)))
theorem bifx (p q : Bool) (a : Nat) : (bif (p ^^ q) then a else 0) = (bif p then a else 0) ^^^ (bif q then a else 0) := by
  cases p <;> cases q <;> simp
theorem tsel_xor (t : Nat → Nat) (x y : Nat) : tsel t (x ^^^ y) = tsel t x ^^^ tsel t y := by
  unfold tsel
  simp only [Nat.testBit_xor, bifx]
  generalize (bif x.testBit 0 then t 1 else 0) = a
  generalize (bif x.testBit 1 then t 2 else 0) = b
  generalize (bif x.testBit 2 then t 4 else 0) = c
  generalize (bif x.testBit 3 then t 8 else 0) = d
  ac_rfl
/-- a table put together by exclusive or, in numbers without sign -/
structure NTab (t : Nat → Nat) : Prop where
  zero : t 0 = 0
  lt : ∀ x, x < 16 → t x < 16
  step : ∀ j r, j < 4 → r < 2 ^ j → t (2 ^ j + r) = t (2 ^ j) ^^^ t r
theorem NTab.sel {t : Nat → Nat} (h : NTab t) : ∀ x, x < 16 → t x = tsel t x := by
  have h0 := h.zero
  have a1 := h.step 1 1 (by decide) (by decide)
  have a2 := fun r hr => h.step 2 r (by decide) hr
  have a3 := fun r hr => h.step 3 r (by decide) hr
  have e3 := a1
  have e5 := a2 1 (by decide)
  have e6 := a2 2 (by decide)
  have e7 := a2 3 (by decide)
  have e9 := a3 1 (by decide)
  have e10 := a3 2 (by decide)
  have e11 := a3 3 (by decide)
  have e12 := a3 4 (by decide)
  have e13 := a3 5 (by decide)
  have e14 := a3 6 (by decide)
  have e15 := a3 7 (by decide)
  simp only [Nat.reducePow, Nat.reduceAdd] at e3 e5 e6 e7 e9 e10 e11 e12 e13 e14 e15
  intro x hx
  have hk := cases16 hx
  rcases hk with rfl | rfl | rfl | rfl | rfl | rfl | rfl | rfl | rfl | rfl | rfl | rfl | rfl | rfl | rfl | rfl
  · rw [h0]; show 0 = (bif Nat.testBit 0 0 then _ else _) ^^^ _; simp only [tsel, Nat.zero_testBit, cond_false, Nat.xor_zero]
  all_goals (show _ = (bif _ then _ else _) ^^^ ((bif _ then _ else _) ^^^ ((bif _ then _ else _) ^^^ (bif _ then _ else _))))
  all_goals simp only [Nat.testBit, Nat.shiftRight_zero, Nat.reduceShiftRight, Nat.reduceBNe, cond_true, cond_false, Nat.zero_xor, Nat.xor_zero, Nat.and_self, bne_self_eq_false, Nat.one_and_eq_mod_two, Nat.reduceMod, e15, e14, e13, e12, e11, e10, e9, e7, e6, e5, e3]
  all_goals (try ac_rfl)
theorem NTab.lin {t : Nat → Nat} (h : NTab t) {x y : Nat} (hx : x < 16) (hy : y < 16) : t (x ^^^ y) = t x ^^^ t y := by
  rw [h.sel x hx, h.sel y hy, h.sel _ (xr_eq hx hy).2, tsel_xor]
theorem px16 : ∀ v : Fin 16, ∀ a : Fin 16, ∀ b : Fin 16, (v.val ^^^ (a.val ^^^ b.val)) < (a.val ^^^ b.val) → (v.val ^^^ a.val) < a.val ∨ (v.val ^^^ b.val) < b.val := by decide +kernel
theorem dx16 : ∀ x : Fin 16, ∀ i : Fin 4, ∀ r : Fin 8, r.val < 2 ^ i.val → x.val.testBit i.val = true → (x.val ^^^ (2 ^ i.val + r.val)) < x.val := by decide +kernel
theorem bt16 : ∀ i : Fin 4, ∀ j : Fin 4, ∀ r : Fin 8, r.val < 2 ^ j.val → (2 ^ j.val + r.val).testBit j.val = true ∧ (i.val < j.val → r.val.testBit i.val = true → (2 ^ j.val + r.val).testBit i.val = true) ∧ (j.val ≤ i.val → r.val.testBit i.val = false) := by decide +kernel
theorem top16 : ∀ x : Fin 16, x.val ≠ 0 → ∃ j : Fin 4, ∃ r : Fin 8, r.val < 2 ^ j.val ∧ x.val = 2 ^ j.val + r.val := by decide +kernel
theorem NTab.bit {t : Nat → Nat} (h : NTab t) {v : Nat} (hv : v < 16) : ∀ x, x < 16 → v ^^^ t x < t x → ∃ i, i < 4 ∧ x.testBit i = true ∧ v ^^^ t (2 ^ i) < t (2 ^ i) := by
  intro x
  induction x using Nat.strongRecOn with
  | _ x ih =>
    intro hx hlt
    by_cases h0 : x = 0
    · subst h0; rw [h.zero] at hlt; exact absurd hlt (Nat.not_lt_zero _)
    · obtain ⟨j, r, hr, e⟩ := top16 ⟨x, hx⟩ h0
      dsimp only at e
      subst e
      have hp : 2 ^ j.val < 16 := p16 j.isLt
      have hr16 : r.val < 16 := by omega
      rw [h.step j.val r.val j.isLt hr] at hlt
      have hb := bt16 j j r hr
      rcases px16 ⟨v, hv⟩ ⟨_, h.lt _ hp⟩ ⟨_, h.lt _ hr16⟩ hlt with h1 | h1
      · exact ⟨j.val, j.isLt, hb.1, h1⟩
      · obtain ⟨i, hi, hbi, h2⟩ := ih r.val (by have := Nat.pow_pos (n := j.val) (show 0 < 2 by decide); omega) hr16 h1
        have hb2 := bt16 ⟨i, hi⟩ j r hr
        refine ⟨i, hi, ?_, h2⟩
        rcases Nat.lt_or_ge i j.val with h3 | h3
        · exact hb2.2.1 h3 hbi
        · rw [hb2.2.2 h3] at hbi; cases hbi
/-- the table by sums is the greedy one -/
structure NLeast (f t : Nat → Nat) : Prop where
  no : ∀ j r, j < 4 → r < 2 ^ j → f (2 ^ j + r) = 1 → t r ≠ t (2 ^ j)
  all : ∀ j u, j < 4 → u < t (2 ^ j) → ∃ r, r < 2 ^ j ∧ f (2 ^ j + r) = 1 ∧ t r = u
theorem xc16 : ∀ x : Fin 16, ∀ y : Fin 16, x.val ^^^ (x.val ^^^ y.val) = y.val := by decide +kernel
theorem xz16 : ∀ x : Fin 16, ∀ y : Fin 16, x.val ^^^ y.val = 0 → x.val = y.val := by decide +kernel
theorem lexi {f t : Nat → Nat} (h : NTab t) (hl : NLeast f t) {x : Nat} (hx : x < 16) :
    (∀ y, y < x → f (x ^^^ y) = 1 → t y ≠ t x) ∧ ∀ u, u < t x → ∃ y, y < x ∧ f (x ^^^ y) = 1 ∧ t y = u := by
  constructor
  · intro y hy hf e
    have hy16 : y < 16 := by omega
    have hd := xr_eq hx hy16
    have hz : t (x ^^^ y) = 0 := by rw [h.lin hx hy16, e, Nat.xor_self]
    have hne : x ^^^ y ≠ 0 := fun h0 => absurd (xz16 ⟨x, hx⟩ ⟨y, hy16⟩ h0) (by dsimp only; omega)
    obtain ⟨j, r, hr, e2⟩ := top16 ⟨_, hd.2⟩ hne
    dsimp only at e2
    have hp : 2 ^ j.val < 16 := p16 j.isLt
    have hr16 : r.val < 16 := by omega
    rw [e2] at hf hz
    rw [h.step _ _ j.isLt hr] at hz
    exact hl.no j.val r.val j.isLt hr hf (xz16 ⟨_, h.lt _ hp⟩ ⟨_, h.lt _ hr16⟩ hz).symm
  · intro u hu
    have htx := h.lt x hx
    have hu16 : u < 16 := by omega
    have hv := xr_eq hu16 htx
    have e1 : (u ^^^ t x) ^^^ t x = u := by rw [Nat.xor_assoc, Nat.xor_self, Nat.xor_zero]
    obtain ⟨i, hi, hb, h2⟩ := h.bit hv.2 x hx (by rw [e1]; exact hu)
    obtain ⟨r, hr, hf, e⟩ := hl.all i _ hi h2
    have hp : 2 ^ i < 16 := p16 hi
    have hr8 : r < 8 := Nat.lt_of_lt_of_le hr (Nat.pow_le_pow_right (by decide) (show i ≤ 3 by omega))
    have hr16 : 2 ^ i + r < 16 := by
      have : 2 ^ i ≤ 8 := Nat.pow_le_pow_right (by decide) (show i ≤ 3 by omega)
      omega
    refine ⟨x ^^^ (2 ^ i + r), dx16 ⟨x, hx⟩ ⟨i, hi⟩ ⟨r, hr8⟩ hr hb, ?_, ?_⟩
    · rw [show x ^^^ (x ^^^ (2 ^ i + r)) = 2 ^ i + r from xc16 ⟨x, hx⟩ ⟨_, hr16⟩]; exact hf
    · rw [h.lin hx hr16, h.step i r hi hr, e]
      have e3 : t (2 ^ i) ^^^ ((u ^^^ t x) ^^^ t (2 ^ i)) = u ^^^ t x := by
        rw [Nat.xor_comm, Nat.xor_assoc, Nat.xor_self, Nat.xor_zero]
      rw [e3, Nat.xor_comm, e1]
theorem pig : ∀ (n : Nat) (bs : List Int), (∀ u : Nat, u < n → (u : Int) ∈ bs) → n ≤ bs.length
  | 0, _, _ => Nat.zero_le _
  | n + 1, bs, h => by
    have h1 : (n : Int) ∈ bs := h n (Nat.lt_succ_self _)
    have h2 := pig n (bs.erase (n : Int)) fun u hu => (List.mem_erase_of_ne (by omega)).mpr (h u (Nat.lt_succ_of_lt hu))
    rw [List.length_erase_of_mem h1] at h2
    have h3 := List.length_pos_of_mem h1
    omega
theorem sum_le {fs ts : List Int} {i j : Nat} (h : SumTab fs ts i) (hj : j < i) : ts.getD (2 ^ j) 0 ≤ 2 ^ j := by
  obtain ⟨h1, h2, h3, h4⟩ := h.2.2 j hj
  have := pig (ts.getD (2 ^ j) 0).toNat ((List.range (2 ^ j)).map fun r => ts.getD r 0) fun u hu => by
    obtain ⟨r, hr, _, e⟩ := h4 u (by omega) (by omega)
    exact List.mem_map.mpr ⟨r, List.mem_range.mpr hr, e⟩
  rw [List.length_map, List.length_range] at this
  have e : ((2 ^ j : Nat) : Int) = 2 ^ j := by rw [Int.natCast_pow]; rfl
  omega
theorem xor_bd {a b : Int} (ha : 0 ≤ a) (ha' : a < 16) (hb : 0 ≤ b) (hb' : b < 16) : Builtin.bitXor a b = ((a.toNat ^^^ b.toNat : Nat) : Int) ∧ a.toNat ^^^ b.toNat < 16 := by
  have := bx16 ⟨a.toNat, by omega⟩ ⟨b.toNat, by omega⟩
  dsimp only at this
  rwa [Int.toNat_of_nonneg ha, Int.toNat_of_nonneg hb] at this
theorem sum_bd {fs ts : List Int} (h : SumTab fs ts 4) : ∀ x, x < 16 → 0 ≤ ts.getD x 0 ∧ ts.getD x 0 < 16 := by
  intro x
  induction x using Nat.strongRecOn with
  | _ x ih =>
    intro hx
    by_cases h0 : x = 0
    · subst h0; rw [h.2.1]; decide
    · obtain ⟨j, r, hr, e⟩ := top16 ⟨x, hx⟩ h0
      dsimp only at e
      subst e
      have hp := p16 j.isLt
      have hj := sum_le h j.isLt
      have e8 : 2 ^ j.val ≤ 8 := Nat.pow_le_pow_right (by decide) (show j.val ≤ 3 by omega)
      have e : ((2 ^ j.val : Nat) : Int) = 2 ^ j.val := by rw [Int.natCast_pow]; rfl
      obtain ⟨h1, h2, _⟩ := h.2.2 j.val j.isLt
      obtain ⟨h3, h4⟩ := ih r.val (by have := Nat.pow_pos (n := j.val) (show 0 < 2 by decide); omega) (by omega)
      rw [h2 r.val hr]
      obtain ⟨e5, e6⟩ := xor_bd h1 (by omega) h3 h4
      rw [e5]
      omega
theorem chan_eq {fs gs ts : List Int} (hg : gs.length = 16) (hm : ∀ x, x < 16 → MexAt fs gs x) (hs : SumTab fs ts 4) : gs = ts := by
  have hb := sum_bd hs
  have hT : NTab fun x => (ts.getD x 0).toNat := by
    refine ⟨by rw [hs.2.1]; rfl, fun x hx => by have := hb x hx; show (ts.getD x 0).toNat < 16; omega, fun j r hj hr => ?_⟩
    have hp := p16 hj
    have h1 := hb _ hp
    have h2 := hb r (by omega)
    show (ts.getD (2 ^ j + r) 0).toNat = _
    rw [(hs.2.2 j hj).2.1 r hr, (xor_bd h1.1 h1.2 h2.1 h2.2).1, Int.toNat_natCast]
  have hL : NLeast (fun x => (fs.getD x 0).toNat) fun x => (ts.getD x 0).toNat := by
    refine ⟨fun j r hj hr hf e => ?_, fun j u hj hu => ?_⟩
    · have hp := p16 hj
      have h1 := hb _ hp
      have h2 := hb r (by omega)
      exact (hs.2.2 j hj).2.2.1 r hr (by omega) (by omega)
    · have hp := p16 hj
      have h1 := hb _ hp
      obtain ⟨r, hr, hf, e⟩ := (hs.2.2 j hj).2.2.2 u (by omega) (by omega)
      exact ⟨r, hr, by show (fs.getD _ 0).toNat = 1; rw [hf]; rfl, by show (ts.getD _ 0).toNat = u; rw [e]; rfl⟩
  have key : ∀ x, x < 16 → gs.getD x 0 = ts.getD x 0 := by
    intro x
    induction x using Nat.strongRecOn with
    | _ x ih =>
      intro hx
      obtain ⟨l1, l2⟩ := lexi hT hL hx
      obtain ⟨m0, m1, m2⟩ := hm x hx
      have ht := hb x hx
      rcases Int.lt_trichotomy (gs.getD x 0) (ts.getD x 0) with hlt | he | hgt
      · obtain ⟨y, hy, hf, e⟩ := l2 (gs.getD x 0).toNat (by omega)
        have hby := hb y (by omega)
        refine absurd ?_ (m1 y hy ?_)
        · rw [ih y hy (by omega)]; omega
        · rw [(xr_eq hx (by omega : y < 16)).1, Int.toNat_natCast]; omega
      · exact he
      · obtain ⟨y, hy, hf, e⟩ := m2 (ts.getD x 0) ht.1 hgt
        refine absurd ?_ (l1 y hy ?_)
        · rw [← e, ih y hy (by omega)]
        · rw [(xr_eq hx (by omega : y < 16)).1, Int.toNat_natCast] at hf; rw [hf]; rfl
  refine List.ext_getElem (by rw [hg, hs.1]) fun i h1 h2 => ?_
  have := key i (by omega)
  rw [List.getD_eq_getElem?_getD, List.getD_eq_getElem?_getD, List.getElem?_eq_getElem h1, List.getElem?_eq_getElem h2] at this
  exact this
end Mine
end
section
open PySem PySem.W PyProof.Rows PySem.Calls PySem.Spec
namespace Mine
theorem sz_at {a b c d : Tok} {i : Nat} {v : Value} (hi : i < 4) (h : [Value.int 1 a, Value.int 2 b, Value.int 4 c, Value.int 8 d][i]? = some v) : ∃ t, v = .int ((2 ^ i : Nat) : Int) t := by
  have hk : i = 0 ∨ i = 1 ∨ i = 2 ∨ i = 3 := by omega
  rcases hk with rfl | rfl | rfl | rfl <;> exact ⟨_, (Option.some.inj h).symm⟩
theorem rsz (n : Nat) : Builtin.Range.rangeSize 0 (n : Int) 1 = n := by
  unfold Builtin.Range.rangeSize
  simp
  try omega
theorem rsm {n : Nat} (hn : n ≤ 1000) : Builtin.Range.small 0 (n : Int) 1 = true := by
  unfold Builtin.Range.small
  rw [rsz]
  unfold Builtin.Range.rangeFitsLong
  simp
  omega
def bar (fs ts : List Int) (n i : Nat) : List Int := ((List.range i).filter fun r => decide (fs.getD (n + r) 0 = 1)).map fun r => ts.getD r 0
theorem bar_y {fs ts : List Int} {n i : Nat} {ys : List Value} {t : Tok} (h : IntsAre ys (bar fs ts n i)) (e : fs.getD ((n : Int) + (i : Int)).toNat 0 = 1) : IntsAre (ys ++ [.int (ts.getD (i : Int).toNat 0) t]) (bar fs ts n (i + 1)) := by
  have e1 : ((n : Int) + (i : Int)).toNat = n + i := by omega
  rw [e1] at e
  unfold bar at h ⊢
  rw [List.range_succ, List.filter_append, List.map_append]
  simp only [List.filter_cons, e, decide_true, if_true, List.filter_nil, List.map_cons, List.map_nil, Int.toNat_natCast]
  exact IntsAre.append h (.cons _ t .nil)
theorem bar_n {fs ts : List Int} {n i : Nat} {ys : List Value} (h : IntsAre ys (bar fs ts n i)) (e : fs.getD ((n : Int) + (i : Int)).toNat 0 ≠ 1) : IntsAre ys (bar fs ts n (i + 1)) := by
  have e1 : ((n : Int) + (i : Int)).toNat = n + i := by omega
  rw [e1] at e
  unfold bar at h ⊢
  rw [List.range_succ, List.filter_append, List.map_append]
  simpa only [List.filter_cons, e, decide_false, Bool.false_eq_true, if_false, List.filter_nil, List.map_nil, List.append_nil] using h
theorem bar_len (fs ts : List Int) (n i : Nat) : (bar fs ts n i).length ≤ i := by
  unfold bar
  rw [List.length_map]
  exact Nat.le_trans (List.length_filter_le _ _) (Nat.le_of_eq List.length_range)
def fre (bs : List Int) (i : Nat) : List Int := ((List.range i).filter fun (u : Nat) => !(bs.any fun x => x == (u : Int))).map fun (u : Nat) => (u : Int)
theorem any_mem {bs : List Int} {u : Int} : (bs.any fun x => x == u) = true ↔ u ∈ bs := by
  rw [List.any_eq_true]
  constructor
  · rintro ⟨x, h1, h2⟩
    rw [← beq_iff_eq.mp h2]; exact h1
  · intro h
    exact ⟨u, h, beq_self_eq_true u⟩
theorem fre_mem {bs : List Int} {i : Nat} {v : Int} : v ∈ fre bs i ↔ ∃ u : Nat, u < i ∧ ¬ (u : Int) ∈ bs ∧ v = u := by
  unfold fre
  rw [List.mem_map]
  constructor
  · rintro ⟨u, h, rfl⟩
    have h1 := List.mem_filter.mp h
    refine ⟨u, List.mem_range.mp h1.1, fun hm => ?_, rfl⟩
    rw [any_mem.mpr hm] at h1
    exact absurd h1.2 (by decide)
  · rintro ⟨u, h1, h2, rfl⟩
    refine ⟨u, List.mem_filter.mpr ⟨List.mem_range.mpr h1, ?_⟩, rfl⟩
    have h3 : (bs.any fun x => x == (u : Int)) = false := by
      cases e : bs.any fun x => x == (u : Int) with
      | false => rfl
      | true => exact absurd (any_mem.mp e) h2
    rw [h3]; rfl
theorem fre_pos {bs : List Int} {n : Nat} (h : bs.length ≤ n) : 0 < (fre bs (n + 1)).length := by
  by_cases hx : ∃ u : Nat, u < n + 1 ∧ ¬ (u : Int) ∈ bs
  · obtain ⟨u, h1, h2⟩ := hx
    exact List.length_pos_of_mem (fre_mem.mpr ⟨u, h1, h2, rfl⟩)
  · have h3 := pig (n + 1) bs fun u hu => Classical.byContradiction fun h4 => hx ⟨u, hu, h4⟩
    omega
theorem fre_y {bs : List Int} {i : Nat} {ys : List Value} {t : Tok} (h : IntsAre ys (fre bs i)) (e : (bs.any fun x => x == (i : Int)) = false) : IntsAre (ys ++ [.int (i : Int) t]) (fre bs (i + 1)) := by
  unfold fre at h ⊢
  rw [List.range_succ, List.filter_append, List.map_append]
  simp only [List.filter_cons, e, Bool.not_false, if_true, List.filter_nil, List.map_cons, List.map_nil]
  exact IntsAre.append h (.cons _ t .nil)
theorem fre_n {bs : List Int} {i : Nat} {ys : List Value} (h : IntsAre ys (fre bs i)) (e : (bs.any fun x => x == (i : Int)) = true) : IntsAre ys (fre bs (i + 1)) := by
  unfold fre at h ⊢
  rw [List.range_succ, List.filter_append, List.map_append]
  simpa only [List.filter_cons, e, Bool.not_true, Bool.false_eq_true, if_false, List.filter_nil, List.map_nil, List.append_nil] using h
theorem bar_mem {fs ts : List Int} {n i : Nat} {v : Int} : v ∈ bar fs ts n i ↔ ∃ r, r < i ∧ fs.getD (n + r) 0 = 1 ∧ ts.getD r 0 = v := by
  unfold bar
  rw [List.mem_map]
  constructor
  · rintro ⟨r, h, e⟩
    have h1 := List.mem_filter.mp h
    exact ⟨r, List.mem_range.mp h1.1, of_decide_eq_true h1.2, e⟩
  · rintro ⟨r, h1, h2, e⟩
    exact ⟨r, List.mem_filter.mpr ⟨List.mem_range.mpr h1, decide_eq_true h2⟩, e⟩
theorem xor_snoc {ts : List Int} {M : Int} {r : Nat} {ys : List Value} {x : Int} {t : Tok} (h : IntsAre ys ((ts.take r).map (Builtin.bitXor M))) (hr : ts[r]? = some x) : IntsAre (ys ++ [.int (Builtin.bitXor M x) t]) ((ts.take (r + 1)).map (Builtin.bitXor M)) := by
  rw [List.take_add_one, hr]
  simp only [Option.toList_some, List.map_append, List.map_cons, List.map_nil]
  exact IntsAre.append h (.cons _ t .nil)
theorem sum_step {fs ts : List Int} {i n : Nat} {M : Int} (hn : 2 ^ i = n) (h : SumTab fs ts i) (hM : M ∈ fre (bar fs ts n n) (n + 1)) (hm : ∀ a, a ∈ fre (bar fs ts n n) (n + 1) → M ≤ a) : SumTab fs (ts ++ ts.map (Builtin.bitXor M)) (i + 1) := by
  subst hn
  obtain ⟨h1, h2, h3⟩ := h
  obtain ⟨m, hm1, hm2, rfl⟩ := fre_mem.mp hM
  have hp : 0 < 2 ^ i := Nat.pow_pos (by decide)
  have lo : ∀ x, x < 2 ^ i → (ts ++ ts.map (Builtin.bitXor (m : Int))).getD x 0 = ts.getD x 0 := by
    intro x hx
    rw [List.getD_eq_getElem?_getD, List.getElem?_append_left (by omega), List.getD_eq_getElem?_getD]
  have hi : ∀ x, x < 2 ^ i → (ts ++ ts.map (Builtin.bitXor (m : Int))).getD (2 ^ i + x) 0 = Builtin.bitXor m (ts.getD x 0) := by
    intro x hx
    rw [List.getD_eq_getElem?_getD, List.getElem?_append_right (by omega), h1, Nat.add_sub_cancel_left, List.getElem?_map, List.getD_eq_getElem?_getD, List.getElem?_eq_getElem (by omega : x < ts.length)]
    rfl
  have top : (ts ++ ts.map (Builtin.bitXor (m : Int))).getD (2 ^ i) 0 = m := by
    have := hi 0 hp
    rw [Nat.add_zero, h2, bitXor_zero] at this
    exact this
  refine ⟨?_, ?_, fun j hj => ?_⟩
  · rw [List.length_append, List.length_map, h1, Nat.pow_succ]; omega
  · rw [lo 0 hp]; exact h2
  · rcases Nat.lt_or_eq_of_le (Nat.le_of_lt_succ hj) with hj | rfl
    · obtain ⟨g1, g2, g3, g4⟩ := h3 j hj
      have hpj : 2 ^ j + 2 ^ j ≤ 2 ^ i := by
        have := Nat.pow_le_pow_right (n := 2) (by decide) (show j + 1 ≤ i from hj)
        rw [Nat.pow_succ] at this
        omega
      have hpp : 0 < 2 ^ j := Nat.pow_pos (by decide)
      rw [lo (2 ^ j) (by omega)]
      refine ⟨g1, fun r hr => ?_, fun r hr hf => ?_, fun u hu0 hu => ?_⟩
      · rw [lo _ (by omega), lo _ (by omega)]; exact g2 r hr
      · rw [lo _ (by omega)]; exact g3 r hr hf
      · obtain ⟨r, hr, hf, e⟩ := g4 u hu0 hu
        exact ⟨r, hr, hf, by rw [lo _ (by omega)]; exact e⟩
    · rw [top]
      refine ⟨by omega, fun r hr => ?_, fun r hr hf => ?_, fun u hu0 hu => ?_⟩
      · rw [hi r hr, lo r hr]
      · rw [lo r hr]
        exact fun e => hm2 (bar_mem.mpr ⟨r, hr, hf, e⟩)
      · obtain ⟨k, rfl⟩ := Int.eq_ofNat_of_zero_le hu0
        have hk : (k : Int) ∈ bar fs ts (2 ^ j) (2 ^ j) := Classical.byContradiction fun hn => by
          have := hm k (fre_mem.mpr ⟨k, by omega, hn, rfl⟩)
          omega
        obtain ⟨r, hr, hf, e⟩ := bar_mem.mp hk
        exact ⟨r, hr, hf, by rw [lo r hr]; exact e⟩
def stepL (d : Int) (n : Int) : Int := n + 1 + (d.fdiv 2).fmod 3 + d.fmod 2 * 2
def plainL (ds : List Int) : Nat → List Int
  | 0 => [0]
  | i + 1 => plainL ds i ++ (plainL ds i).map (stepL (ds.getD i 0))
theorem plain_len (ds : List Int) : ∀ i, (plainL ds i).length = 2 ^ i
  | 0 => rfl
  | i + 1 => by
    show (plainL ds i ++ (plainL ds i).map _).length = _
    rw [List.length_append, List.length_map, plain_len ds i, Nat.pow_succ]; omega
theorem step_snoc {ts : List Int} {d : Int} {r : Nat} {ys : List Value} {x : Int} {t : Tok} (h : IntsAre ys ((ts.take r).map (stepL d))) (hr : ts[r]? = some x) : IntsAre (ys ++ [.int (stepL d x) t]) ((ts.take (r + 1)).map (stepL d)) := by
  rw [List.take_add_one, hr]
  simp only [Option.toList_some, List.map_append, List.map_cons, List.map_nil]
  exact IntsAre.append h (.cons _ t .nil)
end Mine
end
section
open PySem PySem.W PyProof.Rows PySem.Calls PySem.Spec
set_option maxHeartbeats 600000
namespace Mine
local macro_rules | `(tactic| walk_at "eval ListComp") => `(tactic| (k_here; (with_reducible show wpAny _ _ (eval (Expr.ListComp _ [⟨_, _, [], _⟩] _ _) _) _ _ _); k_dflt (refine LCg.ListComp_U (F₀ := by k_asm) (by with_unfolding_all rfl) (by decide) (by rfl) (by decide) (by rfl) ?_)))
local macro_rules | `(tactic| walk_at "eval ListComp") => `(tactic| (k_here; (with_reducible show wpAny _ _ (eval (Expr.ListComp _ [⟨_, _, [_], _⟩] _ _) _) _ _ _); k_dflt (refine LCt.ListComp_T (F₀ := by k_asm) (by with_unfolding_all rfl) (by decide) (by rfl) (by decide) (by rfl) ?_)))
local macro_rules | `(tactic| walk_at "m_to_min") => `(tactic| repeat' (first | (k_unfold; (try dsimp only)) | ((fail_if_success (with_reducible show wpAny _ _ (call (.builtin "min") _) _ _ _)); first | walk1 | (dsimp only; walk1))))
local macro_rules | `(tactic| walk_at "call builtin:min") => `(tactic| (k_here; (with_reducible rename Fr _ _ _ _ => F9); (with_reducible rename News _ _ _ _ => N9); k_dflt (refine min_list_N (by rfl) F9 N9 (News.isList N9 (.head _)) (by with_reducible assumption) (by with_reducible assumption) ?_); intro h' M' t' tk' F' N' hM' hm'; k_sweep; (try dsimp only)))
local macro_rules | `(tactic| walk_at "eval Name") => `(tactic| (k_here; (with_reducible show wpAny _ _ (eval (Expr.Name _ _) (envOfC _ _ _ _ _)) _ _ _); (with_reducible rename News _ _ _ _ => N9); k_dflt (refine ldCN N9 (by rfl) (by k_mem) (by with_reducible assumption) ?_)))
set_option maxHeartbeats 2000000 in
theorem su_c {w : World} {dp un : Nat} {fr : Option (List Env)} {gd : Option (List Code)} {s : Shared} {p : Program} {loose : List Str} {mean : ExcName → Option Value} {mg mb : Str → Option Value}
   {lf : Addr} {fv : List Value} {fs : List Int}
  (X : (Mine.hd.heap_39 w.params).In s.heap) (T : Top p loose mean mg mb s.heap) (hl : s.heap.IsList lf fv.toArray) (hi : IntsAre fv fs) (hn : fs.length = 16)
  (hd : dp + 40 < recursionLimit) (hu : un + 300 < cLine) :
  codeAny (model PySem.Challenge.rw_sr0016_01.row.prog w) (AA dp fr gd un) (.call (.ref 133) ⟨[.ref lf], []⟩)
    (fun r s' => Ends (∃ G gv gs, r = .ok (.ret (.ref G)) ∧ Keeps s s' ∧ s.heap.get? G = none ∧ s'.heap.get? G = some (W.listOf gv.toArray 0) ∧ IntsAre gv gs ∧ SumTab fs gs 4)) s := by
  refine' enterC (binds := [(Str.ofString "foes", .ref lf)]) (Lies.all s.heap) ?k1 ?k2 ?k8 ?k6 ?k7 ?k9 ?kB ?kD ?_ ?c2 ?c3 ?c4
  walk_at "m_enteredC"
  case kD => decide +kernel
  case kB => exact rfl
  intro L' h₁ tk' cells F N Y hk hsz
  k_cells Y
  (try simp only [List.cons_append, List.nil_append] at N)
  try dsimp only
  (try k_unmd)
  (try k_fold)
  have hvl := hi.length
  walk_at "m_to_for"
  rename Fr _ _ _ _ => F1
  refine For_turns F1 ?_
  walk_at "m_to_iter"
  rename Fr _ _ _ _ => F2
  rename News _ _ _ _ => N2
  (try clear F1)
  rename (_ < _ ∧ _ < _ ∧ _ < _ ∧ _ < _ ∧ _ < _ ∧ _ < _) => l19
  rename (_ < _ ∧ _ < _ ∧ _ < _ ∧ _ < _ ∧ _ < _) => l18
  refine lst_loop2 (vs := [Value.int 1 _, Value.int 2 _, Value.int 4 _, Value.int 8 _]) (fun i m news => ∃ TB tv ts c1 c2 c3 c4 c5 v3 v4 v5, news = [(TB, W.listOf tv.toArray 0), (L' + 1 + 1 + 1 + 1 + 1, c5), (L' + 1 + 1 + 1 + 1, c4), (L' + 1 + 1 + 1, c3), (L' + 1 + 1, c2), (L' + 1, c1)] ∧
    c1.data = .cell (some (.ref lf)) ∧ c2.data = .cell (some (.ref TB)) ∧ c3.data = .cell v3 ∧ c4.data = .cell v4 ∧ c5.data = .cell v5 ∧ @LT.lt Nat instLTNat (L' + 1 + 1 + 1 + 1 + 1) TB ∧ IntsAre tv ts ∧ SumTab fs ts i) rfl F2 N2 ?_ ?_ ?_ ?_
  · intro p hp
    simp only [List.mem_cons, List.not_mem_nil, or_false] at hp
    rcases hp with rfl | rfl | rfl | rfl | rfl | rfl
    · exact Nat.ne_of_lt l19.1
    · exact Nat.ne_of_lt l19.2.1
    · exact Nat.ne_of_lt l19.2.2.1
    · exact Nat.ne_of_lt l19.2.2.2.1
    · exact Nat.ne_of_lt l19.2.2.2.2.1
    · exact Nat.ne_of_lt l19.2.2.2.2.2
  · refine ⟨_, [.int 0 _], [0], _, _, _, _, _, _, _, _, rfl, by assumption, by assumption, by assumption, by assumption, by assumption, l18.1, .cons 0 _ .nil, ?_⟩
    exact ⟨rfl, rfl, fun j hj => absurd hj (Nat.not_lt_zero _)⟩
  · rintro i v m₁ nw I oI h tk hi hv ⟨TB, tv, ts, c1, c2, c3, c4, c5, v3, v4, v5, rfl, d1, d2, d3, d4, d5, lTB, hI, hS⟩ hoffA hoff hAI F0 N0
    obtain ⟨tz, rfl⟩ := sz_at hi hv
    have hn8 : 2 ^ i ≤ 8 := Nat.pow_le_pow_right (by decide) (show i ≤ 3 by have : i < 4 := hi; omega)
    have hlen := hS.1
    generalize hnn : 2 ^ i = n at *
    clear F2 N2 hv l18 l19
    have F : Fr s.heap L' h m₁ := F0
    have N : News s.heap L' h _ := N0
    clear F0 N0
    have htv := hI.length
    have a1 : @Ne Nat TB I := hoff _ (.head _)
    have a2 : @Ne Nat (L' + 1 + 1 + 1 + 1 + 1) I := hoff _ (.tail _ (.head _))
    have a3 : @Ne Nat (L' + 1 + 1 + 1 + 1) I := hoff _ (.tail _ (.tail _ (.head _)))
    have a4 : @Ne Nat (L' + 1 + 1 + 1) I := hoff _ (.tail _ (.tail _ (.tail _ (.head _))))
    have a5 : @Ne Nat (L' + 1 + 1) I := hoff _ (.tail _ (.tail _ (.tail _ (.tail _ (.head _)))))
    have a6 : @Ne Nat (L' + 1) I := hoff _ (.tail _ (.tail _ (.tail _ (.tail _ (.tail _ (.head _))))))
    have b1 : @Ne Nat TB _ := hoffA _ (.head _)
    have b2 : @Ne Nat (L' + 1 + 1 + 1 + 1 + 1) _ := hoffA _ (.tail _ (.head _))
    have b3 : @Ne Nat (L' + 1 + 1 + 1 + 1) _ := hoffA _ (.tail _ (.tail _ (.head _)))
    have b4 : @Ne Nat (L' + 1 + 1 + 1) _ := hoffA _ (.tail _ (.tail _ (.tail _ (.head _))))
    have b5 : @Ne Nat (L' + 1 + 1) _ := hoffA _ (.tail _ (.tail _ (.tail _ (.tail _ (.head _)))))
    have b6 : @Ne Nat (L' + 1) _ := hoffA _ (.tail _ (.tail _ (.tail _ (.tail _ (.tail _ (.head _))))))
    have ar1 := Ne.symm a1
    have br1 := Ne.symm b1
    have ar2 := Ne.symm a2
    have br2 := Ne.symm b2
    have ar3 := Ne.symm a3
    have br3 := Ne.symm b3
    have ar4 := Ne.symm a4
    have br4 := Ne.symm b4
    have ar5 := Ne.symm a5
    have br5 := Ne.symm b5
    have ar6 := Ne.symm a6
    have br6 := Ne.symm b6
    clear hoff hoffA
    walk_at "m_steps"
    rename IsRange _ _ _ _ _ _ _ _ => hR
    rename Fr _ _ _ _ => F1
    rename News _ _ _ _ => N1
    refine LCt.CompSrcT.range (n := n) (by rfl) F1 N1 hR (rsm (by omega)) (rsz n) (by rw [sizeLine_eq]; omega) ?_
    intro g'
    refine restT (fun i ys nw => nw = _ ∧ IntsAre ys (bar fs ts n i)) ⟨rfl, .nil⟩ ?_ ?_
    · rintro r ys nw v I2 oI2 C oC D m₂ h2 tk2 E' hr ⟨t, rfl⟩ ⟨rfl, hJ⟩ hC hx F N off ne
      clear F1 N1 hR
      have hr0 : (0 : Int) ≤ (r : Int) := by omega
      have hr1 : (r : Int) < ts.length := by omega
      have hs0 : (0 : Int) ≤ (n : Int) + (r : Int) := by omega
      have hs1 : (n : Int) + (r : Int) < fs.length := by omega
      rw [Int.zero_add] at hx
      (try simp only [LCg.Off3, and_true] at off)
      walk_at "m_steps"
      · exact LCg.CompEnd.intro F N _ (fun p hp => hp) (by simp only [LCg.Off3, and_true]; exact off) trivial ⟨rfl, bar_y hJ (by assumption)⟩
      · exact LCg.CompEnd.intro F N _ (fun p hp => hp) (by simp only [LCg.Off3, and_true]; exact off) trivial ⟨rfl, bar_n hJ (by assumption)⟩
    · rintro ys nw ⟨rfl, hJ⟩
      clear F1 N1 hR
      have hbl := bar_len fs ts n n
      have hyl := hJ.length
      walk_at "m_steps"
      rename IsRange _ _ _ _ _ _ _ _ => hR
      rename Fr _ _ _ _ => F1
      rename News _ _ _ _ => N1
      refine LCt.CompSrcT.range (n := n + 1) (by rfl) F1 N1 hR (rsm (n := n + 1) (by omega)) (rsz (n + 1)) (by rw [sizeLine_eq]; omega) ?_
      intro g2'
      refine restT (fun i ys nw => nw = _ ∧ IntsAre ys (fre (bar fs ts n n) i)) ⟨rfl, .nil⟩ ?_ ?_
      · rintro r ys2 nw v I2 oI2 C oC D m₂ h2 tk2 E' hr ⟨t, rfl⟩ ⟨rfl, hJ2⟩ hC hx F N off ne
        clear F1 N1 hR
        rw [Int.zero_add] at hx
        (try simp only [LCg.Off3, and_true] at off)
        walk_at "m_steps"
        · exact LCg.CompEnd.intro F N _ (fun p hp => hp) (by simp only [LCg.Off3, and_true]; exact off) trivial ⟨rfl, fre_n hJ2 (by assumption)⟩
        · exact LCg.CompEnd.intro F N _ (fun p hp => hp) (by simp only [LCg.Off3, and_true]; exact off) trivial ⟨rfl, fre_y hJ2 (by assumption)⟩
      · rintro ys2 nw ⟨rfl, hJ2⟩
        clear F1 N1 hR
        have hfp := fre_pos hbl
        walk_at "m_to_min"
        rename Fr _ _ _ _ => F9
        rename News _ _ _ _ => N9
        refine min_list_N (by rfl) F9 N9 ⟨_, (N9 _ (.head _)).1, rfl, _, rfl⟩ hJ2 hfp ?_
        intro h9 M t9 tk9 F N0 hM hm
        have N : News s.heap L' h9 _ := fun p hp => N0 p (.tail _ (.tail _ hp))
        clear F9 N9 N0 hJ2
        (try clear hJ)
        walk_at "m_steps"
        rename Fr _ _ _ _ => F1
        rename News _ _ _ _ => N1
        refine LCg.CompSrc.ledger (by rfl) F1 N1 (by k_mem) (by rw [sizeLine_eq]; simp only [List.size_toArray]; omega) ?_
        intro g3'
        refine restI (fun r ys nw => nw = _ ∧ IntsAre ys ((ts.take r).map (Builtin.bitXor M))) ⟨rfl, .nil⟩ ?_ ?_
        · rintro r ys3 nw v I3 oI3 C oC D m₂ h3 tk3 E' hr hv ⟨rfl, hJ⟩ hC hx F N off ne
          obtain ⟨k, t, rfl, hk⟩ := IntsAre.at hI r v (by simpa using hv)
          clear F1 N1
          (try simp only [LCg.Off3, and_true] at off)
          walk_at "m_steps"
          exact LCg.CompEnd.intro F N _ (fun p hp => hp) (by simp only [LCg.Off3, and_true]; exact off) (Or.inr ⟨_, .tail _ (.tail _ (.head _)), rfl, _, rfl⟩) ⟨rfl, xor_snoc hJ hk⟩
        · rintro ys3 nw ⟨rfl, hJ⟩
          clear F1 N1
          walk_at "m_steps"
          rename Fr _ _ _ _ => F9
          rename News _ _ _ _ => N9
          rename IntsAre _ (ts ++ _) => hI9
          rename (_ < _ ∧ _ < _ ∧ _ < _ ∧ _ < _ ∧ _ < _ ∧ _ < _ ∧ _ < _ ∧ _ < _ ∧ _ < _) => l9
          have e9 : tv.toArray.size = ts.length := by rw [List.size_toArray]; exact htv
          rw [e9, List.take_length] at hI9
          obtain ⟨l91, l92, l93, l94, l95, l96, l97, l98, l99⟩ := l9
          rename (_ = Data.cell (some (Value.ref _))) => q0
          have q2 := And.intro q0 trivial
          clear q0
          rename (_ = Data.cell (some (Value.int M _))) => q5
          rename (_ = Data.cell (some (Value.ref _))) => q4
          rename (_ = Data.cell (some (Value.int (n : Int) _))) => q3
          refine TurnEnd.intro F9 (news₂ := _ :: [(_, W.listOf _ 0), (L' + 1 + 1 + 1 + 1 + 1, _), (L' + 1 + 1 + 1 + 1, _), (L' + 1 + 1 + 1, _), (L' + 1 + 1, _), (L' + 1, _)]) (fun p hp => ?_) (fun p hp => ?_) ⟨_, rfl, (fun p hp => ?_), _, _, _, _, _, _, _, _, _, _, _, rfl, d1, q2.1, q3, q4, q5, l95, hI9, sum_step hnn hS hM hm⟩
          · rcases List.mem_cons.mp hp with rfl | hp
            · exact N9 _ (.tail _ (.tail _ (.head _)))
            rcases List.mem_cons.mp hp with rfl | hp
            · exact N9 _ (.tail _ (.tail _ (.tail _ (.head _))))
            rcases List.mem_cons.mp hp with rfl | hp
            · exact N9 _ (.head _)
            rcases List.mem_cons.mp hp with rfl | hp
            · exact N9 _ (.tail _ (.tail _ (.tail _ (.tail _ (.tail _ (.head _))))))
            rcases List.mem_cons.mp hp with rfl | hp
            · exact N9 _ (.tail _ (.tail _ (.tail _ (.tail _ (.tail _ (.tail _ (.head _)))))))
            rcases List.mem_cons.mp hp with rfl | hp
            · exact N9 _ (.tail _ (.tail _ (.tail _ (.tail _ (.tail _ (.tail _ (.tail _ (.head _))))))))
            rcases List.mem_cons.mp hp with rfl | hp
            · exact N9 _ (.tail _ (.tail _ (.tail _ (.tail _ (.tail _ (.tail _ (.tail _ (.tail _ (.head _)))))))))
            · rw [List.mem_singleton.mp hp]; exact N9 _ (.tail _ (.tail _ (.tail _ (.tail _ (.tail _ (.tail _ (.tail _ (.tail _ (.tail _ (.head _))))))))))
          · rcases List.mem_cons.mp hp with rfl | hp
            · exact hAI
            rcases List.mem_cons.mp hp with rfl | hp
            · exact Nat.ne_of_gt l92
            rcases List.mem_cons.mp hp with rfl | hp
            · exact a2
            rcases List.mem_cons.mp hp with rfl | hp
            · exact a3
            rcases List.mem_cons.mp hp with rfl | hp
            · exact a4
            rcases List.mem_cons.mp hp with rfl | hp
            · exact a5
            · rw [List.mem_singleton.mp hp]; exact a6
          · rcases List.mem_cons.mp hp with rfl | hp
            · exact Nat.ne_of_gt l93
            rcases List.mem_cons.mp hp with rfl | hp
            · exact b2
            rcases List.mem_cons.mp hp with rfl | hp
            · exact b3
            rcases List.mem_cons.mp hp with rfl | hp
            · exact b4
            rcases List.mem_cons.mp hp with rfl | hp
            · exact b5
            · rw [List.mem_singleton.mp hp]; exact b6
  · rintro m₁ nw h tk ⟨TB, tv, ts, c1, c2, c3, c4, c5, v3, v4, v5, rfl, d1, d2, d3, d4, d5, lTB, hI, hS⟩ F0 N0
    have F : Fr s.heap L' h m₁ := F0
    have N : News s.heap L' h _ := N0
    clear F0 N0
    walk_at "m_steps"
    any_goals (show Ends _; rename News _ _ _ _ => N9; rename Fr _ _ _ _ => F9; exact ⟨TB, tv, ts, rfl, ⟨_, _, rfl, F9.keep⟩, (N9 _ (.head _)).2.2, (N9 _ (.head _)).1, hI, hS⟩)
end Mine
end
section
open PySem PySem.W PyProof.Rows PySem.Calls PySem.Spec
namespace Mine
def crSt : Bool → List Nat → Bool
  | b, [] => b
  | _, c :: r => crSt (c == 13) r
theorem crlf_app : ∀ (b : Bool) (l r : List Nat), Rx.crlf b (l ++ r) = Rx.crlf b l ++ Rx.crlf (crSt b l) r
  | b, [], r => rfl
  | b, c :: l, r => by
    rw [List.cons_append]
    by_cases h : c = 10
    · subst h
      simp only [Rx.crlf, crSt, if_true]
      rw [show ((10 : Nat) == 13) = false by decide, crlf_app false l r]
      cases b <;> simp
    · by_cases h2 : c = 13
      · subst h2
        simp only [Rx.crlf, crSt, if_true]
        rw [show ((13 : Nat) == 13) = true by decide, crlf_app true l r]
        simp
      · simp only [Rx.crlf, crSt, h, h2, if_false]
        rw [show (c == 13) = false by simpa using h2, crlf_app false l r]
        simp
def dtSt : Bool → List Nat → Bool
  | b, [] => b
  | _, c :: r => dtSt (c == 10) r
theorem dots_app : ∀ (b : Bool) (l r : List Nat), Rx.dots b (l ++ r) = Rx.dots b l ++ Rx.dots (dtSt b l) r
  | b, [], r => rfl
  | b, c :: l, r => by
    rw [List.cons_append]
    cases h : (b && c == 46) with
    | true =>
      have hc : c = 46 := by
        have := (Bool.and_eq_true _ _).mp h
        simpa using this.2
      subst hc
      simp only [Rx.dots, dtSt, h, if_true]
      rw [show ((46 : Nat) == 10) = false by decide, dots_app false l r]
      simp
    | false =>
      simp only [Rx.dots, dtSt, h, Bool.false_eq_true, if_false]
      rw [dots_app _ l r]
      simp
def flagN (k : Nat) (d : Int) : List Nat := List.replicate ((d.fmod 2).toNat * 2) 46 ++ List.replicate (1 + (d.fdiv 2).fmod 3).toNat (97 + k)
def midL (k : Nat) (d : Int) : List Nat := 13 :: 10 :: (List.replicate (d.fmod 2).toNat 46 ++ List.replicate (1 + (d.fdiv 2).fmod 3).toNat (97 + k))
theorem piece72 : ∀ k : Fin 4, ∀ d : Fin 18, Rx.crlf false (pieceL k.val (d.val : Int)) = midL k.val (d.val : Int) ∧ crSt false (pieceL k.val (d.val : Int)) = false ∧
    Rx.dots false (midL k.val (d.val : Int)) = 13 :: 10 :: flagN k.val (d.val : Int) ∧ dtSt false (midL k.val (d.val : Int)) = false ∧
    (flagN k.val (d.val : Int)).all (fun c => decide (c < 128 ∧ c ≠ 41 ∧ ¬ (c = 32 ∨ (9 ≤ c ∧ c ≤ 13)))) = true ∧ (flagN k.val (d.val : Int)).length ≤ 5 ∧ flagN k.val (d.val : Int) ≠ [] := by decide +kernel
theorem piece_at {k : Nat} {d : Int} (hk : k < 4) (h0 : 0 ≤ d) (h1 : d < 18) : Rx.crlf false (pieceL k d) = midL k d ∧ crSt false (pieceL k d) = false ∧
    Rx.dots false (midL k d) = 13 :: 10 :: flagN k d ∧ dtSt false (midL k d) = false ∧
    (flagN k d).all (fun c => decide (c < 128 ∧ c ≠ 41 ∧ ¬ (c = 32 ∨ (9 ≤ c ∧ c ≤ 13)))) = true ∧ (flagN k d).length ≤ 5 ∧ flagN k d ≠ [] := by
  obtain ⟨n, rfl⟩ := Int.eq_ofNat_of_zero_le h0
  exact piece72 ⟨k, hk⟩ ⟨n, by omega⟩
/-- the flags named, as numbers -/
def partsN (z : Int) (ds : List Int) : Nat → List (List Nat)
  | 0 => []
  | k + 1 => partsN z ds k ++ if hasB z k then [flagN k (ds.getD k 0)] else []
def joinN (ps : List (List Nat)) : List Nat := ps.flatMap fun p => 13 :: 10 :: p
def hd9 : List Nat := [42, 32, 70, 76, 65, 71, 83, 32, 40]
def Good (p : List Nat) : Prop := p.all (fun c => decide (c < 128 ∧ c ≠ 41 ∧ ¬ (c = 32 ∨ (9 ≤ c ∧ c ≤ 13)))) = true ∧ p.length ≤ 5 ∧ p ≠ []
section
variable {z : Int} {ds : List Int} (hb : ∀ k, k < 4 → 0 ≤ ds.getD k 0 ∧ ds.getD k 0 < 18)
include hb
theorem reply_q : ∀ k, k ≤ 4 → Rx.dots true (Rx.crlf false (replyUp z ds k)) = hd9 ++ joinN (partsN z ds k) ∧ crSt false (replyUp z ds k) = false ∧ dtSt true (Rx.crlf false (replyUp z ds k)) = false ∧ (∀ p ∈ partsN z ds k, Good p) ∧ (partsN z ds k).length ≤ k
  | 0, _ => ⟨show Rx.dots true (Rx.crlf false hd9) = hd9 ++ joinN [] by decide +kernel, show crSt false hd9 = false by decide +kernel, show dtSt true (Rx.crlf false hd9) = false by decide +kernel, fun p hp => (nomatch hp), Nat.le_refl _⟩
  | k + 1, hk => by
    obtain ⟨h1, h2, h3, h4, h5⟩ := reply_q k (by omega)
    have hd := hb k (by omega)
    obtain ⟨p1, p2, p3, p4, p5⟩ := piece_at (k := k) (by omega) hd.1 hd.2
    by_cases hz : hasB z k
    · have e : replyUp z ds (k + 1) = replyUp z ds k ++ pieceL k (ds.getD k 0) := by
        show replyUp z ds k ++ (if hasB z k then _ else []) = _
        rw [if_pos hz]
      have e2 : partsN z ds (k + 1) = partsN z ds k ++ [flagN k (ds.getD k 0)] := by
        show partsN z ds k ++ (if hasB z k then _ else []) = _
        rw [if_pos hz]
      have st : ∀ (b : Bool) (l r : List Nat), crSt b (l ++ r) = crSt (crSt b l) r := by
        intro b l
        induction l generalizing b with
        | nil => intro r; rfl
        | cons c l ih => intro r; exact ih _ r
      have st2 : ∀ (b : Bool) (l r : List Nat), dtSt b (l ++ r) = dtSt (dtSt b l) r := by
        intro b l
        induction l generalizing b with
        | nil => intro r; rfl
        | cons c l ih => intro r; exact ih _ r
      rw [e, e2, crlf_app, h2, p1, dots_app, h3, p3, h1, st, h2, p2, st2, h3, p4]
      refine ⟨?_, rfl, rfl, ?_, ?_⟩
      · rw [List.append_assoc]
        congr 1
        simp only [joinN, List.flatMap_append, List.flatMap_cons, List.flatMap_nil, List.append_nil]
      · intro p hp
        rcases List.mem_append.mp hp with hp | hp
        · exact h4 p hp
        · rw [List.mem_singleton.mp hp]; exact p5
      · rw [List.length_append]; simp only [List.length_cons, List.length_nil]; omega
    · have e : replyUp z ds (k + 1) = replyUp z ds k := turn_no hz
      have e2 : partsN z ds (k + 1) = partsN z ds k := by
        show partsN z ds k ++ (if hasB z k then _ else []) = _
        rw [if_neg hz, List.append_nil]
      rw [e, e2]
      exact ⟨h1, h2, h3, h4, by omega⟩
theorem quoted_eq : (quoted ⟨(replyUp z ds 4 ++ [41]).toArray⟩).cps = (hd9 ++ joinN (partsN z ds 4) ++ [41]).toArray := by
  obtain ⟨h1, h2, h3, h4, h5⟩ := reply_q (z := z) hb 4 (Nat.le_refl _)
  show (Rx.dots true (Rx.crlf false (replyUp z ds 4 ++ [41]).toArray.toList)).toArray = _
  congr 1
  show Rx.dots true (Rx.crlf false (replyUp z ds 4 ++ [41])) = _
  rw [crlf_app, h2, dots_app, h1, h3]
  rfl
end
theorem join_nil_or : ∀ {ps : List (List Nat)}, joinN ps = [] ∨ ∃ r, joinN ps = 13 :: 10 :: r
  | [] => .inl rfl
  | p :: ps => .inr ⟨p ++ joinN ps, rfl⟩
theorem join_good {ps : List (List Nat)} (h : ∀ p ∈ ps, Good p) : ∀ c ∈ joinN ps, c < 128 ∧ c ≠ 41 := by
  intro c hc
  obtain ⟨p, hp, hc⟩ := List.mem_flatMap.mp hc
  rcases List.mem_cons.mp hc with rfl | hc
  · decide
  · rcases List.mem_cons.mp hc with rfl | hc
    · decide
    · have := of_decide_eq_true (List.all_eq_true.mp (h p hp).1 c hc)
      exact ⟨this.1, this.2.1⟩
theorem join_len : ∀ {ps : List (List Nat)}, (∀ p ∈ ps, Good p) → (joinN ps).length ≤ 7 * ps.length
  | [], _ => Nat.le_refl _
  | p :: ps, h => by
    have h1 := join_len (ps := ps) fun q hq => h q (.tail _ hq)
    have h2 := (h p (.head _)).2.1
    show (13 :: 10 :: p ++ joinN ps).length ≤ _
    simp only [List.length_append, List.length_cons]
    omega
theorem tot_len {ps : List (List Nat)} (h : ∀ p ∈ ps, Good p) (h4 : ps.length ≤ 4) : (hd9 ++ joinN ps ++ [41]).length = (joinN ps).length + 10 ∧ (joinN ps).length ≤ 28 := by
  have := join_len h
  simp only [List.length_append, List.length_cons, List.length_nil, hd9]
  omega
theorem d10 : ∀ x : Fin 10, x.val = 0 ∨ x.val = 1 ∨ x.val = 2 ∨ x.val = 3 ∨ x.val = 4 ∨ x.val = 5 ∨ x.val = 6 ∨ x.val = 7 ∨ x.val = 8 ∨ x.val = 9 := by decide +kernel
theorem cs10 {i : Nat} (h : i < 10) : i = 0 ∨ i = 1 ∨ i = 2 ∨ i = 3 ∨ i = 4 ∨ i = 5 ∨ i = 6 ∨ i = 7 ∨ i = 8 ∨ i = 9 := d10 ⟨i, h⟩
theorem d11 : ∀ x : Fin 11, 2 < x.val → x.val = 3 ∨ x.val = 4 ∨ x.val = 5 ∨ x.val = 6 ∨ x.val = 7 ∨ x.val = 8 ∨ x.val = 9 ∨ x.val = 10 := by decide +kernel
theorem cs11 {i : Nat} (h : i < 11) (h2 : 2 < i) : i = 3 ∨ i = 4 ∨ i = 5 ∨ i = 6 ∨ i = 7 ∨ i = 8 ∨ i = 9 ∨ i = 10 := d11 ⟨i, h⟩ h2
theorem flag_text {ps : List (List Nat)} (h : ∀ p ∈ ps, Good p) (h4 : ps.length ≤ 4) : Rx.FlagText (hd9 ++ joinN ps ++ [41]).toArray (hd9 ++ joinN ps ++ [41]).toArray.size 10 ((joinN ps).length + 9) := by
  obtain ⟨l1, l2⟩ := tot_len h h4
  have hg := join_good h
  have gd : ∀ i, (hd9 ++ joinN ps ++ [41]).toArray.getD i 0 = (hd9 ++ (joinN ps ++ [41])).getD i 0 := by
    intro i
    rw [← List.append_assoc]
    simp [Array.getD_eq_getD_getElem?]
  have gj : ∀ i, 9 ≤ i → i < (joinN ps).length + 9 → (hd9 ++ joinN ps ++ [41]).toArray.getD i 0 ∈ joinN ps := by
    intro i h1 h2
    rw [gd i, List.getD_eq_getElem?_getD, List.getElem?_append_right (by simpa [hd9] using h1), List.getElem?_append_left (by simp [hd9]; omega), List.getElem?_eq_getElem (by simp [hd9]; omega)]
    exact List.getElem_mem _
  have ge : (hd9 ++ joinN ps ++ [41]).toArray.getD ((joinN ps).length + 9) 0 = 41 := by
    rw [gd, List.getD_eq_getElem?_getD, List.getElem?_append_right (by simp [hd9]), List.getElem?_append_right (by simp [hd9])]
    simp [hd9]
  have g9 : (hd9 ++ joinN ps ++ [41]).toArray.getD 9 0 = 13 ∨ (hd9 ++ joinN ps ++ [41]).toArray.getD 9 0 = 41 := by
    rcases join_nil_or (ps := ps) with e | ⟨r, e⟩
    · right; rw [e]; rfl
    · left; rw [e]; rfl
  have g10 : (hd9 ++ joinN ps ++ [41]).length = 10 ∨ (hd9 ++ joinN ps ++ [41]).toArray.getD 10 0 = 10 := by
    rcases join_nil_or (ps := ps) with e | ⟨r, e⟩
    · left; rw [e]; rfl
    · right; rw [e]; rfl
  rw [List.size_toArray, l1]
  refine ⟨by omega, ⟨rfl, rfl, rfl, rfl, rfl, rfl, rfl⟩, ⟨by omega, by omega⟩, ?_, ?_, ?_, ⟨by omega, by omega, ge⟩, ?_⟩
  · intro i hi
    have hk := cs10 hi
    rcases hk with rfl | rfl | rfl | rfl | rfl | rfl | rfl | rfl | rfl | rfl
    · exact (show (42 : Nat) ≠ 10 by decide)
    · exact (show (32 : Nat) ≠ 10 by decide)
    · exact (show (70 : Nat) ≠ 10 by decide)
    · exact (show (76 : Nat) ≠ 10 by decide)
    · exact (show (65 : Nat) ≠ 10 by decide)
    · exact (show (71 : Nat) ≠ 10 by decide)
    · exact (show (83 : Nat) ≠ 10 by decide)
    · exact (show (32 : Nat) ≠ 10 by decide)
    · exact (show (40 : Nat) ≠ 10 by decide)
    · rcases g9 with e | e <;> rw [e] <;> decide
  · rcases g10 with e | e
    · left; omega
    · right; exact e
  · intro i h1 h2 h3
    have hk := cs11 (Nat.lt_succ_of_le h2) h1
    rcases hk with rfl | rfl | rfl | rfl | rfl | rfl | rfl | rfl
    · exact (show (76 : Nat) ≠ 70 by decide)
    · exact (show (65 : Nat) ≠ 70 by decide)
    · exact (show (71 : Nat) ≠ 70 by decide)
    · exact (show (83 : Nat) ≠ 70 by decide)
    · exact (show (32 : Nat) ≠ 70 by decide)
    · exact (show (40 : Nat) ≠ 70 by decide)
    · rcases g9 with e | e <;> rw [e] <;> decide
    · rcases g10 with e | e
      · omega
      · rw [e]; decide
  · intro i h1 h2
    exact (hg _ (gj i h1 h2)).2
theorem words_go : ∀ (ps : List (List UInt8)) (fuel left : Nat), (∀ p ∈ ps, p ≠ [] ∧ ∀ c ∈ p, Builtin.Bytes.isSpace c = false) → ps.length < fuel → ps.length < left → Builtin.Bytes.words fuel left (ps.flatMap fun p => 13 :: 10 :: p) = ps
  | [], 0, _, _, h, _ => absurd h (Nat.not_lt_zero _)
  | [], fuel + 1, _, _, _, _ => rfl
  | p :: ps, 0, _, _, h, _ => absurd h (Nat.not_lt_zero _)
  | p :: ps, fuel + 1, 0, _, _, h => absurd h (Nat.not_lt_zero _)
  | [] :: ps, fuel + 1, left + 1, hp, _, _ => absurd rfl (hp _ (.head _)).1
  | (c :: p) :: ps, fuel + 1, left + 1, hp, h1, h2 => by
    have hc := (hp _ (.head _)).2
    have hrest : ((ps.flatMap fun p => 13 :: 10 :: p) : List UInt8).takeWhile (!Builtin.Bytes.isSpace ·) = [] ∧ ((ps.flatMap fun p => 13 :: 10 :: p) : List UInt8).dropWhile (!Builtin.Bytes.isSpace ·) = ps.flatMap fun p => 13 :: 10 :: p := by
      cases ps with
      | nil => exact ⟨rfl, rfl⟩
      | cons q ps => exact ⟨rfl, rfl⟩
    have hall : ∀ x ∈ c :: p, (!Builtin.Bytes.isSpace x) = true := fun x hx => by rw [hc x hx]; rfl
    have e : (((c :: p) :: ps).flatMap fun p => 13 :: 10 :: p).dropWhile Builtin.Bytes.isSpace = (c :: p) ++ ps.flatMap fun p => 13 :: 10 :: p := by
      rw [List.flatMap_cons]
      show List.dropWhile Builtin.Bytes.isSpace (13 :: 10 :: c :: (p ++ _)) = _
      rw [List.dropWhile_cons_of_pos (by decide), List.dropWhile_cons_of_pos (by decide), List.dropWhile_cons_of_neg (by rw [hc c (.head _)]; decide)]
      rfl
    have tw : ((c :: p) ++ ps.flatMap fun p => 13 :: 10 :: p).takeWhile (!Builtin.Bytes.isSpace ·) = c :: p := by
      rw [List.takeWhile_append_of_pos hall, hrest.1, List.append_nil]
    have dw : ((c :: p) ++ ps.flatMap fun p => 13 :: 10 :: p).dropWhile (!Builtin.Bytes.isSpace ·) = ps.flatMap fun p => 13 :: 10 :: p := by
      rw [List.dropWhile_append_of_pos hall, hrest.2]
    unfold Builtin.Bytes.words
    rw [e]
    show (if (left + 1 == 0) = true then _ else _) = _
    rw [if_neg (by simp)]
    show List.takeWhile _ ((c :: p) ++ _) :: Builtin.Bytes.words fuel (left + 1 - 1) (List.dropWhile _ ((c :: p) ++ _)) = _
    rw [tw, dw, Nat.add_sub_cancel, words_go ps fuel left (fun q hq => hp q (.tail _ hq)) (by simpa using h1) (by simpa using h2)]
def toB (p : List Nat) : List UInt8 := p.map (·.toUInt8)
theorem sp128 : ∀ c : Fin 128, ¬ (c.val = 32 ∨ (9 ≤ c.val ∧ c.val ≤ 13)) → Builtin.Bytes.isSpace c.val.toUInt8 = false := by decide +kernel
theorem good_sp {p : List Nat} (h : Good p) : toB p ≠ [] ∧ ∀ c ∈ toB p, Builtin.Bytes.isSpace c = false := by
  refine ⟨fun e => h.2.2 (List.map_eq_nil_iff.mp e), fun c hc => ?_⟩
  obtain ⟨n, hn, rfl⟩ := List.mem_map.mp hc
  have := of_decide_eq_true (List.all_eq_true.mp h.1 n hn)
  exact sp128 ⟨n, this.1⟩ this.2.2
theorem join_toB : ∀ (ps : List (List Nat)), (joinN ps).map (·.toUInt8) = (ps.map toB).flatMap fun p => 13 :: 10 :: p
  | [] => rfl
  | p :: ps => by
    show ((13 :: 10 :: p) ++ joinN ps).map (·.toUInt8) = _
    rw [List.map_append, join_toB ps]
    rfl
/-- the text sent, as bytes -/
def sentB (z : Int) (ds : List Int) : Array UInt8 := (quoted ⟨(replyUp z ds 4 ++ [41]).toArray⟩).cps.map (·.toUInt8)
section
variable {z : Int} {ds : List Int} (hb : ∀ k, k < 4 → 0 ≤ ds.getD k 0 ∧ ds.getD k 0 < 18)
include hb
theorem sent_ascii : ∀ c ∈ (quoted ⟨(replyUp z ds 4 ++ [41]).toArray⟩).cps, c < 128 := by
  rw [quoted_eq hb]
  intro c hc
  have hg := join_good (reply_q (z := z) hb 4 (Nat.le_refl _)).2.2.2.1
  have hc' : c ∈ hd9 ++ joinN (partsN z ds 4) ++ [41] := by simpa using hc
  rcases List.mem_append.mp hc' with h | h
  · rcases List.mem_append.mp h with h | h
    · exact (by decide : ∀ x ∈ hd9, x < 128) c h
    · exact (hg c h).1
  · rw [List.mem_singleton.mp h]; decide
theorem u8back {l : List Nat} (h : ∀ c ∈ l, c < 128) : ((l.toArray.map (·.toUInt8)).map (·.toNat)) = l.toArray := by
  apply Array.toList_inj.mp
  simp only [Array.toList_map, List.map_map]
  conv => rhs; rw [← List.map_id l]
  apply List.map_congr_left
  intro c hc
  have := h c hc
  show c.toUInt8.toNat = c
  rw [Nat.toUInt8, UInt8.toNat_ofNat']
  exact Nat.mod_eq_of_lt (by omega)
theorem sent_back : (sentB z ds).map (·.toNat) = (hd9 ++ joinN (partsN z ds 4) ++ [41]).toArray := by
  have h := sent_ascii (z := z) hb
  unfold sentB
  rw [quoted_eq hb] at h ⊢
  exact u8back hb fun c hc => h c (by simpa using hc)
theorem sent_text : Rx.FlagText ((sentB z ds).map (·.toNat)) ((sentB z ds).map (·.toNat)).size 10 ((joinN (partsN z ds 4)).length + 9) := by
  rw [sent_back hb]
  obtain ⟨_, _, _, h4, h5⟩ := reply_q (z := z) hb 4 (Nat.le_refl _)
  exact flag_text h4 h5
theorem sent_size : 0 < (quoted ⟨(replyUp z ds 4 ++ [41]).toArray⟩).cps.size ∧ (quoted ⟨(replyUp z ds 4 ++ [41]).toArray⟩).cps.size ≤ 10000 := by
  obtain ⟨_, _, _, h4, h5⟩ := reply_q (z := z) hb 4 (Nat.le_refl _)
  obtain ⟨l1, l2⟩ := tot_len h4 h5
  rw [quoted_eq hb, List.size_toArray]
  omega
theorem sent_body : (((sentB z ds).map (·.toNat)).extract 9 ((joinN (partsN z ds 4)).length + 9)).map (·.toUInt8) = (((partsN z ds 4).map toB).flatMap fun p => 13 :: 10 :: p).toArray := by
  rw [sent_back hb, ← join_toB]
  apply Array.toList_inj.mp
  simp only [Array.toList_map, Array.toList_extract]
  congr 1
  simp [hd9]
theorem sent_words : Builtin.Bytes.words (((((sentB z ds).map (·.toNat)).extract 9 ((joinN (partsN z ds 4)).length + 9)).map (·.toUInt8)).size + 1) (((((sentB z ds).map (·.toNat)).extract 9 ((joinN (partsN z ds 4)).length + 9)).map (·.toUInt8)).size + 1) ((((sentB z ds).map (·.toNat)).extract 9 ((joinN (partsN z ds 4)).length + 9)).map (·.toUInt8)).toList = (partsN z ds 4).map toB := by
  obtain ⟨_, _, _, h4, h5⟩ := reply_q (z := z) hb 4 (Nat.le_refl _)
  rw [sent_body hb]
  have hl : ∀ ps : List (List UInt8), ps.length ≤ (ps.flatMap fun p => 13 :: 10 :: p).length := by
    intro ps
    induction ps with
    | nil => exact Nat.le_refl _
    | cons p ps ih => rw [List.flatMap_cons]; simp only [List.length_cons, List.length_append]; omega
  have := hl ((partsN z ds 4).map toB)
  refine words_go _ _ _ (fun p hp => ?_) (by simp only [List.size_toArray]; omega) (by simp only [List.size_toArray]; omega)
  obtain ⟨q, hq, rfl⟩ := List.mem_map.mp hp
  exact good_sp (h4 q hq)
theorem sent_sp : ((((sentB z ds).map (·.toNat)).extract 9 ((joinN (partsN z ds 4)).length + 9)).map (·.toUInt8)) = #[] ∨ ((((sentB z ds).map (·.toNat)).extract 9 ((joinN (partsN z ds 4)).length + 9)).map (·.toUInt8)).any Builtin.Bytes.isSpace = true := by
  rw [sent_body hb]
  cases (partsN z ds 4).map toB with
  | nil => exact .inl rfl
  | cons p ps => right; rw [List.any_toArray]; rfl
end
end Mine
end
section
open PySem PySem.W PyProof.Rows PySem.Calls PySem.Spec
set_option maxHeartbeats 600000
namespace Mine
local macro_rules | `(tactic| walk_at "eval ListComp") => `(tactic| (k_here; k_dflt (refine LCg.ListComp_U (F₀ := by k_asm) (by with_unfolding_all rfl) (by decide) (by rfl) (by decide) (by rfl) ?_)))
set_option maxHeartbeats 2000000 in
theorem plain_c {w : World} {dp un : Nat} {fr : Option (List Env)} {gd : Option (List Code)} {s : Shared} {p : Program} {loose : List Str} {mean : ExcName → Option Value} {mg mb : Str → Option Value}
   {l : Addr} {vs : List Value} {ds : List Int}
  (X : (Mine.hd.heap_39 w.params).In s.heap) (T : Top p loose mean mg mb s.heap) (hl : s.heap.IsList l vs.toArray) (hi : IntsAre vs ds) (hlen : ds.length = 6)
  (hb : ∀ k, k < 4 → 0 ≤ ds.getD k 0 ∧ ds.getD k 0 < 18)
  (hd : dp + 10 < recursionLimit) (hu : un + 100 < cLine) :
  codeAny (model PySem.Challenge.rw_sr0016_01.row.prog w) (AA dp fr gd un) (.call (.ref 128) ⟨[.ref l], []⟩)
    (fun r s' => Ends (∃ G gv, r = .ok (.ret (.ref G)) ∧ Keeps s s' ∧ s.heap.get? G = none ∧ s'.heap.get? G = some (W.listOf gv.toArray 0) ∧ IntsAre gv (plainL ds 4))) s := by
  refine' enterC (binds := [(Str.ofString "drawn", .ref l)]) (Lies.all s.heap) ?k1 ?k2 ?k8 ?k6 ?k7 ?k9 ?kB ?kD ?_ ?c2 ?c3 ?c4
  walk_at "m_enteredC"
  case kD => decide +kernel
  case kB => exact rfl
  intro L' h₁ tk' cells F N Y hk hsz
  k_cells Y
  (try simp only [List.cons_append, List.nil_append] at N)
  try dsimp only
  (try k_unmd)
  (try k_fold)
  have hvl := hi.length
  walk_at "m_to_for"
  rename Fr _ _ _ _ => F1
  refine For_turns F1 ?_
  walk_at "m_to_iter"
  rename Fr _ _ _ _ => F2
  rename News _ _ _ _ => N2
  rename IntsAre _ (List.take 4 ds) => h4
  rename (_ < _ ∧ _ < _) => l19
  rename _ < _ => l18
  have h4l := h4.length
  rw [List.length_take, hlen] at h4l
  refine lst_loop2 (fun i m news => ∃ TB tv c1 v1, news = [(TB, W.listOf tv.toArray 0), (L' + 1, c1)] ∧ m (Str.ofString "lengths") = some (.ref TB) ∧
    c1.data = .cell v1 ∧ @LT.lt Nat instLTNat (L' + 1) TB ∧ IntsAre tv (plainL ds i)) rfl F2 N2 ?_ ?_ ?_ ?_
  · intro p hp
    simp only [List.mem_cons, List.not_mem_nil, or_false] at hp
    rcases hp with rfl | rfl
    · exact Nat.ne_of_lt l19.1
    · exact Nat.ne_of_lt l19.2
  · exact ⟨_, [.int 0 _], _, _, rfl, rfl, by assumption, l18, .cons 0 _ .nil⟩
  · rintro i v m₁ nw I oI h tk hi4 hv ⟨TB, tv, c1, v1, rfl, e1, d1, lTB, hI⟩ hoffA hoff hAI F0 N0
    obtain ⟨d, tz, rfl, hdd⟩ := IntsAre.at h4 i v hv
    have hi4 : i < 4 := by omega
    rw [List.getElem?_take_of_lt hi4] at hdd
    have hn8 : 2 ^ i ≤ 8 := Nat.pow_le_pow_right (by decide) (show i ≤ 3 by omega)
    have hpl := plain_len ds i
    have hdi : d = ds.getD i 0 := by rw [List.getD_eq_getElem?_getD, hdd]; rfl
    clear F2 N2 hv l18 l19
    have F : Fr s.heap L' h m₁ := F0
    have N : News s.heap L' h _ := N0
    clear F0 N0
    have htv := hI.length
    have a1 : @Ne Nat TB I := hoff _ (.head _)
    have a2 : @Ne Nat (L' + 1) I := hoff _ (.tail _ (.head _))
    have b1 : @Ne Nat TB _ := hoffA _ (.head _)
    have b2 : @Ne Nat (L' + 1) _ := hoffA _ (.tail _ (.head _))
    clear hoff hoffA
    walk_at "m_steps"
    rename Fr _ _ _ _ => F1
    rename News _ _ _ _ => N1
    refine LCg.CompSrc.ledger (by rfl) F1 N1 (by k_mem) (by rw [sizeLine_eq]; simp only [List.size_toArray]; omega) ?_
    intro g2'
    refine restI (fun r ys nw => nw = _ ∧ IntsAre ys (((plainL ds i).take r).map (stepL d))) ⟨rfl, .nil⟩ ?_ ?_
    · rintro r ys nw v I2 oI2 C oC D m₂ h2 tk2 E' hr hv ⟨rfl, hJ⟩ hC hx F N off ne
      obtain ⟨k, t, rfl, hk⟩ := IntsAre.at hI r v (by simpa using hv)
      clear F1 N1
      (try simp only [LCg.Off3, and_true] at off)
      walk_at "m_steps"
      exact LCg.CompEnd.intro F N _ (fun p hp => hp) (by simp only [LCg.Off3, and_true]; exact off) (Or.inr ⟨_, .tail _ (.tail _ (.head _)), rfl, _, rfl⟩) ⟨rfl, step_snoc hJ hk⟩
    · rintro ys nw ⟨rfl, hJ⟩
      clear F1 N1
      walk_at "m_steps"
      rename Fr _ _ _ _ => F9
      rename News _ _ _ _ => N9
      rename IntsAre _ (plainL ds i ++ _) => hI9
      rename (_ < _ ∧ _ < _ ∧ _ < _ ∧ _ < _ ∧ _ < _) => l9
      have e9 : tv.toArray.size = (plainL ds i).length := by rw [List.size_toArray]; exact htv
      rw [e9, List.take_length, hdi] at hI9
      obtain ⟨l91, l92, l93, l94, l95⟩ := l9
      refine TurnEnd.intro F9 (news₂ := _ :: [(_, W.listOf _ 0), (L' + 1, _)]) (fun p hp => ?_) (fun p hp => ?_) ⟨_, rfl, (fun p hp => ?_), _, _, _, _, rfl, rfl, by assumption, l95, hI9⟩
      · rcases List.mem_cons.mp hp with rfl | hp
        · exact N9 _ (.tail _ (.tail _ (.head _)))
        rcases List.mem_cons.mp hp with rfl | hp
        · exact N9 _ (.tail _ (.tail _ (.tail _ (.head _))))
        rcases List.mem_cons.mp hp with rfl | hp
        · exact N9 _ (.head _)
        · rw [List.mem_singleton.mp hp]
          exact N9 _ (.tail _ (.tail _ (.tail _ (.tail _ (.tail _ (.head _))))))
      · rcases List.mem_cons.mp hp with rfl | hp
        · exact hAI
        rcases List.mem_cons.mp hp with rfl | hp
        · exact Nat.ne_of_gt l92
        · rw [List.mem_singleton.mp hp]; exact a2
      · rcases List.mem_cons.mp hp with rfl | hp
        · exact Nat.ne_of_gt l93
        · rw [List.mem_singleton.mp hp]; exact b2
  · rintro m₁ nw h tk ⟨TB, tv, c1, v1, rfl, e1, d1, lTB, hI⟩ F0 N0
    have F : Fr s.heap L' h m₁ := F0
    have N : News s.heap L' h _ := N0
    clear F0 N0
    rw [h4l] at hI
    walk_at "m_steps"
    any_goals (show Ends _; exact ⟨TB, tv, rfl, ⟨_, _, rfl, F.keep⟩, (N _ (.head _)).2.2, (N _ (.head _)).1, hI⟩)
end Mine
end
section
open PySem PySem.W PyProof.Rows PySem.Calls PySem.Spec
namespace Mine
def lenF (d : Int) : Int := 1 + (d.fdiv 2).fmod 3 + d.fmod 2 * 2
def lenT (ds : List Int) (z : Nat) : Int := (bif z.testBit 0 then lenF (ds.getD 0 0) else 0) + (bif z.testBit 1 then lenF (ds.getD 1 0) else 0) + (bif z.testBit 2 then lenF (ds.getD 2 0) else 0) + (bif z.testBit 3 then lenF (ds.getD 3 0) else 0)
theorem plain_at (ds : List Int) {z : Nat} (hz : z < 16) : (plainL ds 4).getD z 0 = lenT ds z := by
  have hk := cases16 hz
  rcases hk with rfl | rfl | rfl | rfl | rfl | rfl | rfl | rfl | rfl | rfl | rfl | rfl | rfl | rfl | rfl | rfl
  · show (0 : Int) = 0 + 0 + 0 + 0
    rfl
  · show (stepL (ds.getD 0 0) (0) : Int) = lenF (ds.getD 0 0) + 0 + 0 + 0
    simp only [stepL, lenF]; omega
  · show (stepL (ds.getD 1 0) (0) : Int) = 0 + lenF (ds.getD 1 0) + 0 + 0
    simp only [stepL, lenF]; omega
  · show (stepL (ds.getD 1 0) (stepL (ds.getD 0 0) (0)) : Int) = lenF (ds.getD 0 0) + lenF (ds.getD 1 0) + 0 + 0
    simp only [stepL, lenF]; omega
  · show (stepL (ds.getD 2 0) (0) : Int) = 0 + 0 + lenF (ds.getD 2 0) + 0
    simp only [stepL, lenF]; omega
  · show (stepL (ds.getD 2 0) (stepL (ds.getD 0 0) (0)) : Int) = lenF (ds.getD 0 0) + 0 + lenF (ds.getD 2 0) + 0
    simp only [stepL, lenF]; omega
  · show (stepL (ds.getD 2 0) (stepL (ds.getD 1 0) (0)) : Int) = 0 + lenF (ds.getD 1 0) + lenF (ds.getD 2 0) + 0
    simp only [stepL, lenF]; omega
  · show (stepL (ds.getD 2 0) (stepL (ds.getD 1 0) (stepL (ds.getD 0 0) (0))) : Int) = lenF (ds.getD 0 0) + lenF (ds.getD 1 0) + lenF (ds.getD 2 0) + 0
    simp only [stepL, lenF]; omega
  · show (stepL (ds.getD 3 0) (0) : Int) = 0 + 0 + 0 + lenF (ds.getD 3 0)
    simp only [stepL, lenF]; omega
  · show (stepL (ds.getD 3 0) (stepL (ds.getD 0 0) (0)) : Int) = lenF (ds.getD 0 0) + 0 + 0 + lenF (ds.getD 3 0)
    simp only [stepL, lenF]; omega
  · show (stepL (ds.getD 3 0) (stepL (ds.getD 1 0) (0)) : Int) = 0 + lenF (ds.getD 1 0) + 0 + lenF (ds.getD 3 0)
    simp only [stepL, lenF]; omega
  · show (stepL (ds.getD 3 0) (stepL (ds.getD 1 0) (stepL (ds.getD 0 0) (0))) : Int) = lenF (ds.getD 0 0) + lenF (ds.getD 1 0) + 0 + lenF (ds.getD 3 0)
    simp only [stepL, lenF]; omega
  · show (stepL (ds.getD 3 0) (stepL (ds.getD 2 0) (0)) : Int) = 0 + 0 + lenF (ds.getD 2 0) + lenF (ds.getD 3 0)
    simp only [stepL, lenF]; omega
  · show (stepL (ds.getD 3 0) (stepL (ds.getD 2 0) (stepL (ds.getD 0 0) (0))) : Int) = lenF (ds.getD 0 0) + 0 + lenF (ds.getD 2 0) + lenF (ds.getD 3 0)
    simp only [stepL, lenF]; omega
  · show (stepL (ds.getD 3 0) (stepL (ds.getD 2 0) (stepL (ds.getD 1 0) (0))) : Int) = 0 + lenF (ds.getD 1 0) + lenF (ds.getD 2 0) + lenF (ds.getD 3 0)
    simp only [stepL, lenF]; omega
  · show (stepL (ds.getD 3 0) (stepL (ds.getD 2 0) (stepL (ds.getD 1 0) (stepL (ds.getD 0 0) (0)))) : Int) = lenF (ds.getD 0 0) + lenF (ds.getD 1 0) + lenF (ds.getD 2 0) + lenF (ds.getD 3 0)
    simp only [stepL, lenF]; omega
theorem bit16 : ∀ z : Fin 16, ∀ k : Fin 4, decide (hasB (z.val : Int) k.val) = z.val.testBit k.val := by decide +kernel
theorem has_bit {z k : Nat} (hz : z < 16) (hk : k < 4) : hasB (z : Int) k ↔ z.testBit k = true := by
  rw [← bit16 ⟨z, hz⟩ ⟨k, hk⟩, decide_eq_true_iff]
def sumN (ps : List (List Nat)) : Int := (ps.map fun p => (p.length : Int)).sum
theorem flagN_len (k : Nat) (d : Int) : ((flagN k d).length : Int) = lenF d := by
  unfold flagN lenF
  have h1 := Int.fmod_nonneg_of_pos d (b := 2) (by decide)
  have h2 := Int.fmod_nonneg_of_pos (d.fdiv 2) (b := 3) (by decide)
  rw [List.length_append, List.length_replicate, List.length_replicate]
  omega
theorem sum_parts (z : Int) (ds : List Int) (k : Nat) : sumN (partsN z ds (k + 1)) = sumN (partsN z ds k) + if hasB z k then lenF (ds.getD k 0) else 0 := by
  show sumN (partsN z ds k ++ if hasB z k then [flagN k (ds.getD k 0)] else []) = _
  unfold sumN
  rw [List.map_append, List.sum_append]
  congr 1
  by_cases h : hasB z k
  · rw [if_pos h, if_pos h, List.map_cons, List.map_nil, List.sum_cons, List.sum_nil, flagN_len, Int.add_zero]
  · rw [if_neg h, if_neg h]; rfl
theorem sum_lenT (ds : List Int) {z : Nat} (hz : z < 16) : sumN (partsN (z : Int) ds 4) = lenT ds z := by
  have key : ∀ k, k < 4 → (if hasB (z : Int) k then lenF (ds.getD k 0) else 0) = (bif z.testBit k then lenF (ds.getD k 0) else 0) := by
    intro k hk
    by_cases h : hasB (z : Int) k
    · rw [if_pos h, (has_bit hz hk).mp h]; rfl
    · rw [if_neg h]
      have : z.testBit k = false := by
        cases e : z.testBit k with
        | false => rfl
        | true => exact absurd ((has_bit hz hk).mpr e) h
      rw [this]; rfl
  rw [sum_parts, sum_parts, sum_parts, sum_parts, key 0 (by decide), key 1 (by decide), key 2 (by decide), key 3 (by decide)]
  have e : sumN (partsN (z : Int) ds 0) = 0 := rfl
  rw [e]
  unfold lenT
  omega
theorem lenF_bd (d : Int) : 0 ≤ lenF d ∧ lenF d ≤ 5 := by
  have h1 := Int.fmod_nonneg_of_pos d (b := 2) (by decide)
  have h2 := Int.fmod_nonneg_of_pos (d.fdiv 2) (b := 3) (by decide)
  have h3 := Int.fmod_lt_of_pos d (b := 2) (by decide)
  have h4 := Int.fmod_lt_of_pos (d.fdiv 2) (b := 3) (by decide)
  unfold lenF
  omega
theorem lenT_bd (ds : List Int) (z : Nat) : 0 ≤ lenT ds z ∧ lenT ds z ≤ 20 := by
  have key : ∀ k, 0 ≤ (bif z.testBit k then lenF (ds.getD k 0) else 0) ∧ (bif z.testBit k then lenF (ds.getD k 0) else 0) ≤ 5 := by
    intro k
    cases z.testBit k with
    | true => exact lenF_bd _
    | false => exact ⟨Int.le_refl 0, show (0 : Int) ≤ 5 by decide⟩
  have k0 := key 0
  have k1 := key 1
  have k2 := key 2
  have k3 := key 3
  unfold lenT
  omega
def toldL (ds : List Int) (n : Nat) : List Int := (List.range n).map (lenT ds)
theorem toldL_succ (ds : List Int) (n : Nat) : toldL ds (n + 1) = toldL ds n ++ [lenT ds n] := by
  unfold toldL
  rw [List.range_succ, List.map_append]
  rfl
theorem told_bd {ds : List Int} {n : Nat} : ∀ x ∈ toldL ds n, 0 ≤ x ∧ x ≤ 20 := by
  intro x hx
  obtain ⟨z, _, rfl⟩ := List.mem_map.mp hx
  exact lenT_bd ds z
theorem told_len (ds : List Int) (n : Nat) : (toldL ds n).length = n := by rw [toldL, List.length_map, List.length_range]
theorem told_plain (ds : List Int) : toldL ds 16 = plainL ds 4 := by
  refine List.ext_getElem (by rw [told_len, plain_len]) fun i h1 h2 => ?_
  have hi : i < 16 := by rwa [told_len] at h1
  have := plain_at ds hi
  rw [List.getD_eq_getElem?_getD, List.getElem?_eq_getElem h2] at this
  rw [show (plainL ds 4)[i] = lenT ds i from this]
  simp [toldL]
/-- the words that the flags of z are -/
def wordsB (ds : List Int) (z : Nat) : List (List UInt8) := (partsN (z : Int) ds 4).map toB
theorem toB_flag {ds : List Int} {k : Nat} (hk : k < 4) : toB (flagN k (ds.getD k 0)) = flagB ds (k : Int) := by
  unfold toB flagN flagB
  rw [List.map_append, List.map_replicate, List.map_replicate, Int.toNat_natCast]
  have e : ∀ k : Fin 4, (97 + k.val).toUInt8 = 97 + k.val.toUInt8 := by decide
  rw [e ⟨k, hk⟩]
  rfl
theorem words_flags (ds : List Int) (z : Nat) : ∀ n, n ≤ 4 → (partsN (z : Int) ds n).map toB = ((ks4 n).filter (inZ (z : Int))).map (flagB ds)
  | 0, _ => rfl
  | n + 1, h => by
    show (partsN (z : Int) ds n ++ if hasB (z : Int) n then [flagN n (ds.getD n 0)] else []).map toB = _
    rw [ks4_succ, List.filter_append, List.map_append, List.map_append, words_flags ds z n (by omega)]
    congr 1
    by_cases hz : hasB (z : Int) n
    · have : inZ (z : Int) (n : Int) = true := decide_eq_true hz
      rw [if_pos hz, List.filter_cons, this]
      simp only [if_true, List.filter_nil, List.map_cons, List.map_nil]
      rw [toB_flag (by omega)]
    · have : inZ (z : Int) (n : Int) = false := decide_eq_false hz
      rw [if_neg hz, List.filter_cons, this]
      rfl
def wordsL (ds : List Int) (n : Nat) : List (List (List UInt8)) := (List.range n).map (wordsB ds)
theorem wordsL_succ (ds : List Int) (n : Nat) : wordsL ds (n + 1) = wordsL ds n ++ [wordsB ds n] := by
  unfold wordsL
  rw [List.range_succ, List.map_append]
  rfl
theorem wordsL_len (ds : List Int) (n : Nat) : (wordsL ds n).length = n := by rw [wordsL, List.length_map, List.length_range]
theorem wordsL_at (ds : List Int) {n i : Nat} (h : i < n) : (wordsL ds n).getD i [] = wordsB ds i := by
  rw [List.getD_eq_getElem?_getD, wordsL, List.getElem?_map, List.getElem?_range h]
  rfl
theorem words_bd {ds : List Int} (hb : ∀ k, k < 4 → 0 ≤ ds.getD k 0 ∧ ds.getD k 0 < 18) (z : Nat) : (wordsB ds z).length ≤ 4 ∧ ∀ w ∈ wordsB ds z, w.length ≤ 5 := by
  obtain ⟨_, _, _, h4, h5⟩ := reply_q (z := (z : Int)) hb 4 (Nat.le_refl _)
  refine ⟨by rw [wordsB, List.length_map]; exact h5, fun w hw => ?_⟩
  obtain ⟨p, hp, rfl⟩ := List.mem_map.mp hw
  rw [toB, List.length_map]
  exact (h4 p hp).2.1
def lensB (ws : List (List UInt8)) : List Int := ws.map fun w => (w.length : Int)
theorem lens_sum (ds : List Int) {z : Nat} (hz : z < 16) : (lensB (wordsB ds z)).sum = lenT ds z := by
  rw [← sum_lenT ds hz]
  unfold lensB wordsB sumN
  rw [List.map_map]
  congr 1
  apply List.map_congr_left
  intro p _
  show ((toB p).length : Int) = _
  rw [toB, List.length_map]
end Mine
end
section
open PySem PySem.W PyProof.Rows PySem.Calls PySem.Spec
set_option maxHeartbeats 600000
namespace Mine
abbrev tupO (vs : List Value) : Obj := { cls := .type "tuple", data := .seq vs.toArray }
/-- the values are tuples of bytes, each an object of the ledger -/
def TupsIn (nw : List (Addr × Obj)) (ys : List Value) (wss : List (List (List UInt8))) : Prop :=
  ys.length = wss.length ∧ (∀ i, i < wss.length → ∃ T vs, ys[i]? = some (.ref T) ∧ (T, tupO vs) ∈ nw ∧ BysAre vs (wss.getD i [])) ∧ ∀ p ∈ nw, ∃ vs, p.2 = tupO vs
theorem TupsIn.nil : TupsIn [] [] [] := ⟨rfl, fun i h => absurd h (Nat.not_lt_zero _), fun p hp => nomatch hp⟩
theorem TupsIn.snoc {nw : List (Addr × Obj)} {ys : List Value} {wss : List (List (List UInt8))} {T : Addr} {vs : List Value} {ws : List (List UInt8)} (h : TupsIn nw ys wss) (hb : BysAre vs ws) : TupsIn ((T, tupO vs) :: nw) (ys ++ [.ref T]) (wss ++ [ws]) := by
  obtain ⟨h1, h2, h3⟩ := h
  refine ⟨by simp [h1], fun i hi => ?_, fun p hp => ?_⟩
  rotate_left
  · rcases List.mem_cons.mp hp with rfl | hp
    · exact ⟨_, rfl⟩
    · exact h3 p hp
  rcases Nat.lt_or_ge i wss.length with hlt | hge
  · obtain ⟨T', vs', e1, e2, e3⟩ := h2 i hlt
    refine ⟨T', vs', by rw [List.getElem?_append_left (by omega)]; exact e1, .tail _ e2, ?_⟩
    rw [List.getD_eq_getElem?_getD, List.getElem?_append_left hlt, ← List.getD_eq_getElem?_getD]
    exact e3
  · have hi' : i = wss.length := by simp only [List.length_append, List.length_singleton] at hi; omega
    subst hi'
    refine ⟨T, vs, by rw [← h1, List.getElem?_append_right (Nat.le_refl _), Nat.sub_self]; rfl, .head _, ?_⟩
    rw [List.getD_eq_getElem?_getD, List.getElem?_append_right (Nat.le_refl _), Nat.sub_self]
    exact hb
theorem TupsIn.at {nw : List (Addr × Obj)} {ys : List Value} {wss : List (List (List UInt8))} (h : TupsIn nw ys wss) {i : Nat} {v : Value} (hv : ys[i]? = some v) : ∃ T vs, v = .ref T ∧ (T, tupO vs) ∈ nw ∧ BysAre vs (wss.getD i []) := by
  have hi : i < ys.length := (List.getElem?_eq_some_iff.mp hv).1
  obtain ⟨T, vs, e1, e2, e3⟩ := h.2.1 i (by rw [← h.1]; exact hi)
  rw [hv] at e1
  exact ⟨T, vs, Option.some.inj e1, e2, e3⟩
section
variable {s : Shared} {A : Around}
theorem eqAt_bytes {b : Array UInt8} {t u : Tok} : SeqAt.EqAt A s (.bytes b t) (.bytes b u) true := fun prog w E Q h => by
  unfold eqBool
  refine wpAny_holding ?_
  refine wpAny_ite_split (fun _ => wpAny_bind (wpAny_rule (wpAny_pure h))) (fun _ => ?_)
  exact wpAny_bind (eq_bytes (wpAny_truthy_bool (by rw [beq_self_eq_true]; exact h)))
theorem eqAt_tup {T U : Addr} {vs us : List Value} {ws : List (List UInt8)} (h1 : s.heap.get? T = some (tupO vs)) (h2 : s.heap.get? U = some (tupO us)) (b1 : BysAre vs ws) (b2 : BysAre us ws) (hu : A.units < cLine) : SeqAt.EqAt A s (.ref T) (.ref U) true := by
  by_cases h : T = U
  · subst h; exact SeqAt.EqAt.same _
  · have hl : vs.toArray.size = us.toArray.size := by rw [List.size_toArray, List.size_toArray, b1.1, b2.1]
    have := SeqAt.EqAt.of_refs h (SeqAt.RcAt.tuples (A := A) (e := fun _ => true) (items := vs.toArray) (items2 := us.toArray) ⟨_, h1, rfl, _, rfl⟩ ⟨_, h2, rfl, _, rfl⟩ hu fun j j1 j2 => by
      have q1 : j < ws.length := by rw [← b1.1]; simpa using j1
      obtain ⟨t1, e1⟩ := b1.2 j q1
      obtain ⟨t2, e2⟩ := b2.2 j q1
      have f1 : vs.toArray[j] = .bytes (ws.getD j []).toArray t1 := by
        rw [List.getElem_toArray]
        exact Option.some.inj ((List.getElem?_eq_getElem (by simpa using j1)).symm.trans e1)
      have f2 : us.toArray[j] = .bytes (ws.getD j []).toArray t2 := by
        rw [List.getElem_toArray]
        exact Option.some.inj ((List.getElem?_eq_getElem (by simpa using j2)).symm.trans e2)
      rw [f1, f2]
      exact eqAt_bytes)
    have e : ((List.range (min vs.toArray.size us.toArray.size)).all (fun _ => true) && vs.toArray.size == us.toArray.size) = true := by
      rw [hl]; simp
    rw [e] at this
    exact this
theorem ne_tups {prog : Program} {w : World} {E : Value → Shared → Prop} {h₀ : Heap} {L a b : Addr} {news n1 n2 : List (Addr × Obj)} {ys zs : List Value} {wss : List (List (List UInt8))} {Q : Value → Shared → Prop} (N : News h₀ L s.heap news)
    (ha : (a, LCg.lst ys) ∈ news) (hb : (b, LCg.lst zs) ∈ news) (h1 : TupsIn n1 ys wss) (h2 : TupsIn n2 zs wss) (m1 : ∀ p ∈ n1, p ∈ news) (m2 : ∀ p ∈ n2, p ∈ news) (hu : A.units + 10 < cLine) (h : Q (.bool false) s) :
    wpAny (model prog w) A (compareOp .NotEq (.ref a) (.ref b)) Q E s := by
  have hl : ys.toArray.size = zs.toArray.size := by rw [List.size_toArray, List.size_toArray, h1.1, h2.1]
  refine SeqAt.RcNeAt.lists (A := A) (s := s) (e := fun _ => true) (items := ys.toArray) (items2 := zs.toArray) ⟨_, (N _ ha).1, rfl, _, rfl⟩ ⟨_, (N _ hb).1, rfl, _, rfl⟩ hl (by omega) (fun j j1 j2 => ?_) prog w E Q ?_
  · have q1 : j < wss.length := by rw [← h1.1]; simpa using j1
    obtain ⟨T, vs, e1, e2, e3⟩ := h1.2.1 j q1
    obtain ⟨U, us, g1, g2, g3⟩ := h2.2.1 j q1
    have f1 : ys.toArray[j] = .ref T := by
      rw [List.getElem_toArray]
      exact Option.some.inj ((List.getElem?_eq_getElem (by simpa using j1)).symm.trans e1)
    have f2 : zs.toArray[j] = .ref U := by
      rw [List.getElem_toArray]
      exact Option.some.inj ((List.getElem?_eq_getElem (by simpa using j2)).symm.trans g1)
    rw [f1, f2]
    exact eqAt_tup (N _ (m1 _ e2)).1 (N _ (m2 _ g2)).1 e3 g3 (by show A.units + 1 < cLine; omega)
  · have e : (!(List.range ys.toArray.size).all fun _ => true) = false := by simp
    rw [e]; exact h
end
section
variable {prog : Program} {w : World} {A : Around} {E : Value → Shared → Prop} {s : Shared} {h₀ : Heap} {L : Addr} {m : Str → Option Value} {env : Env}
/-- the source of a comprehension is a tuple of the ledger -/
def CompTup (prog : Program) (w : World) (A : Around) (h₀ : Heap) (L : Addr) (m : Str → Option Value) (env : Env) (elt : Expr) (x : Str) (scope : Scope) (cl : List (Str × Addr)) (Fin : Shared → List Value → List (Addr × Obj) → Prop) (xv : Value) (s₁ : Shared) : Prop :=
  ∃ T vs news, xv = .ref T ∧ A.handled = none ∧ Fr h₀ L s₁.heap m ∧ News h₀ L s₁.heap news ∧ (T, tupO vs) ∈ news ∧ vs.toArray.size ≤ sizeLine ∧
    ∀ g, LCg.CompRest prog w A h₀ L m env elt x scope cl { s₁ with heap := g } (fun nw => (T, tupO vs) ∈ nw) (fun i v => vs.toArray[i]? = some v) (Fin { s₁ with heap := g }) vs.toArray.size 0 [] news
theorem ListComp_tup {elt iter : Expr} {x : Str} {px : Pos} {scope : Scope} {cl : List (Str × Addr)} {pos : Pos} {Q : Value → Shared → Prop} (F₀ : Fr h₀ L s.heap m)
    (hclos : closureFor scope env = pure cl) (hcell : ∀ y ∈ scope.names, y.2 ≠ .cell) (hkind : scope.kind = .function)
    (hnames : ∀ y ∈ scope.names, y.2 = .local → scope.names.lookup y.1 = some .local) (hx : scope.names.lookup x = some .local)
    (h : wpAny (model prog w) A (eval iter env) (CompTup prog w A h₀ L m env elt x scope cl (fun s₂ => LCg.FinE h₀ L m s₂ Q)) E s)
    (hs : ∀ x, foldedSetIterable iter env x = pure x := by intro _; rfl) :
    wpAny (model prog w) A (eval (.ListComp elt [⟨.Name x px, iter, [], 0⟩] scope pos) env) Q E s := by
  rw [eval_ListComp]
  refine wpAny_comprehension_free (use := none) rfl hs hclos hkind hnames (wpAny_mono h (fun xv s₁ h₁ => ?_) fun _ _ e => e)
  obtain ⟨T, vs, news, rfl, hh, F, N, hm, hsz, R⟩ := h₁
  have hl : s₁.heap.IsTuple T vs.toArray := ⟨_, (N _ hm).1, rfl, _, rfl⟩
  have hlt : T < s₁.heap.objs.size := Heap.lt_size (N _ hm).1
  refine wpAny_pyIter_tuple hl ?_
  have up : ∀ b o, s₁.heap.get? b = some o → (s₁.heap.push { cls := .type "tuple_iterator", data := .fields #[.ref T, .int 0 0] }).get? b = some o := fun b o e => Heap.get?_push_of_some _ e
  refine LCg.block_U (P := fun i v => vs.toArray[i]? = some v) (n := vs.toArray.size) (S := fun nw => (T, tupO vs) ∈ nw) (news := news) (h₀ := h₀) (L := L) (m := m)
    (Walks.tuple hh s₁.heap.objs.size T (Nat.ne_of_lt hlt) vs.toArray) hsz (fun i h st => by obtain ⟨o, e, _⟩ := st.1; exact ⟨o, e⟩)
    (fun i h h' o nw st e e' k N S => ⟨by obtain ⟨o', q, r⟩ := st.1; rw [e] at q; cases q; exact ⟨o, e', r⟩, ⟨_, (N _ S).1, rfl, _, rfl⟩⟩) hcell hkind hx
    ⟨⟨_, Heap.get?_push_size _ rfl, rfl, rfl⟩, ⟨_, up _ _ (N _ hm).1, rfl, _, rfl⟩⟩ (fun b hb => ?_)
    (F.keeps up) (N.grown up) (Nat.ne_of_lt F.ns.lt) (next_is_new F) (fun p hp => Nat.ne_of_lt (Heap.lt_size (N p hp).1)) hm (R _) ?_
  · show b < (s₁.heap.push _).objs.size
    rw [Heap.size_push]
    rcases List.mem_cons.mp hb with rfl | hb
    · exact Nat.lt_succ_self _
    · rw [List.mem_singleton.mp hb]; exact Nat.lt_succ_of_lt hlt
  · intro D C h tk m' ys news' F' N' o1 hn hC₀ hD₀ hCL hDL hCD offC fin
    refine ⟨m', hn, fun h'' hs'' => fin D h'' tk (F'.change hs'' hCL hC₀) (fun p hp => ⟨hs''.extBut _ _ ?_ (N' p hp).1, (N' p hp).2⟩) o1⟩
    rcases List.mem_cons.mp hp with rfl | hp
    · exact Ne.symm hCD
    · exact offC p hp
end
end Mine
end
section
open PySem PySem.W PyProof.Rows PySem.Calls PySem.Spec
set_option maxHeartbeats 600000
namespace Mine
section
variable {w : World} {dp un : Nat} {fr : Option (List Env)} {gd : Option (List Code)} {s : Shared} {h₀ : Heap} {p : Program} {loose : List Str} {mean : ExcName → Option Value} {mg mb : Str → Option Value} {L : Addr} {m : Str → Option Value} {Q E : Value → Shared → Prop} {news : List (Addr × Obj)}
theorem off_of {h : Heap} {D : Addr} (N : News h₀ L h news) (hn : h.get? D = none) : ∀ p ∈ news, p.1 ≠ D := fun p hp e => by
  have := (N p hp).1
  rw [e, hn] at this
  cases this
theorem drawn_call {l : Addr} {vs : List Value} {ns : List Int} (X : (Mine.hd.heap_39 w.params).In h₀) (T : Top p loose mean mg mb h₀) (F : Fr h₀ L s.heap m) (N : News h₀ L s.heap news) (hl : h₀.IsList l vs.toArray) (hi : IntsAre vs ns) (hn : ns.length ≤ 63)
    (hd : dp + 10 < recursionLimit) (hu : un + 100 < cLine)
    (h : ∀ D ys ds h' tk, IntsAre ys ds → ds.length = 6 → (∀ k, k < 4 → 0 ≤ ds.getD k 0 ∧ ds.getD k 0 < 18) → (∀ k, k < 6 → 0 ≤ ds.getD k 0 ∧ ds.getD k 0 < 1024) → (∀ p ∈ news, p.1 ≠ D) → Fr h₀ L h' m → News h₀ L h' ((D, LCg.lst ys) :: news) → Q (.ref D) { s with heap := h', toks := tk }) :
    wpAny (model PySem.Challenge.rw_sr0016_01.row.prog w) (AA dp fr gd un) (call (.ref 92) [.ref l]) Q E s := by
  have hl' : s.heap.IsList l vs.toArray := by
    obtain ⟨o, e, r⟩ := hl
    exact ⟨o, F.keep _ _ e, r⟩
  refine wpAny_call (codeAny_mono (drawn_c (X.keeps F.keep) (T.keeps F.keep) hl' hi hn hd hu) ?_)
  rintro r s' ⟨D, ys, ds, rfl, ⟨h', tk, rfl, hk⟩, hf, ho, hI, h6, hb, hc⟩
  exact h D ys ds h' tk hI h6 hb hc (off_of N hf) (F.keeps hk) (news_add F N hk hf ho)
theorem reply_call {z : Int} {tz : Tok} {D : Addr} {ys : List Value} {ds : List Int} (X : (Mine.hd.heap_39 w.params).In h₀) (T : Top p loose mean mg mb h₀) (F : Fr h₀ L s.heap m) (N : News h₀ L s.heap news) (hD : (D, LCg.lst ys) ∈ news) (hi : IntsAre ys ds) (hlen : ds.length = 6)
    (hz0 : 0 ≤ z) (hz : z < 16) (hb : ∀ k, k < 4 → 0 ≤ ds.getD k 0 ∧ ds.getD k 0 < 18)
    (hd : dp + 10 < recursionLimit) (hu : un + 100 < cLine)
    (h : ∀ u h' tk, Fr h₀ L h' m → News h₀ L h' news → Q (.str ⟨(replyUp z ds 4 ++ [41]).toArray⟩ u) { s with heap := h', toks := tk }) :
    wpAny (model PySem.Challenge.rw_sr0016_01.row.prog w) (AA dp fr gd un) (call (.ref 99) [.int z tz, .ref D]) Q E s := by
  refine wpAny_call (codeAny_mono (reply_c (X.keeps F.keep) (T.keeps F.keep) ⟨_, (N _ hD).1, rfl, _, rfl⟩ hi hlen hz0 hz hb hd hu) ?_)
  rintro r s' ⟨u, rfl, ⟨h', tk, rfl, hk⟩⟩
  exact h u h' tk (F.keeps hk) (N.grown hk)
theorem quote_call {t : Str} {tk : Tok} (X : (Mine.hd.heap_39 w.params).In h₀) (T : Top p loose mean mg mb h₀) (F : Fr h₀ L s.heap m) (N : News h₀ L s.heap news) (ht : t.cps.size ≤ 1000)
    (hd : dp + 10 < recursionLimit) (hu : un + 100 < cLine)
    (h : ∀ u h' tk, Fr h₀ L h' m → News h₀ L h' news → Q (.str (quoted t) u) { s with heap := h', toks := tk }) :
    wpAny (model PySem.Challenge.rw_sr0016_01.row.prog w) (AA dp fr gd un) (call (.ref 87) [.str t tk]) Q E s := by
  refine wpAny_call (codeAny_mono (quotedata_c (X.keeps F.keep) (T.keeps F.keep) ht hd hu) ?_)
  rintro r s' ⟨u, rfl, ⟨h', tk, rfl, hk⟩⟩
  exact h u h' tk (F.keeps hk) (N.grown hk)
theorem parse_call {z : Nat} {ds : List Int} {tk : Tok} (X : (Mine.hd.heap_39 w.params).In h₀) (T : Top p loose mean mg mb h₀) (F : Fr h₀ L s.heap m) (N : News h₀ L s.heap news) (hb : ∀ k, k < 4 → 0 ≤ ds.getD k 0 ∧ ds.getD k 0 < 18)
    (hd : dp + 10 < recursionLimit) (hu : un + 100 < cLine)
    (h : ∀ T vs h' tk, BysAre vs (wordsB ds z) → (∀ p ∈ news, p.1 ≠ T) → Fr h₀ L h' m → News h₀ L h' ((T, tupO vs) :: news) → Q (.ref T) { s with heap := h', toks := tk }) :
    wpAny (model PySem.Challenge.rw_sr0016_01.row.prog w) (AA dp fr gd un) (call (.ref 70) [.bytes ((quoted ⟨(replyUp (z : Int) ds 4 ++ [41]).toArray⟩).cps.map (·.toUInt8)) tk]) Q E s := by
  have hsz := sent_size (z := (z : Int)) hb
  have hw := words_bd hb z
  refine wpAny_call (codeAny_mono (parse_c (b := sentB (z : Int) ds) (ws := wordsB ds z) (X.keeps F.keep) (T.keeps F.keep) (by show ((quoted _).cps.map _).size ≤ 10000; rw [Array.size_map]; exact hsz.2) (sent_text hb) (sent_words hb) (fun w hm => Nat.le_trans (hw.2 w hm) (by decide)) (by omega) (sent_sp hb) hd hu) ?_)
  rintro r s' ⟨U, rfl, ⟨h', tk, rfl, hk⟩, hf, vs, ho, hv⟩
  exact h U vs h' tk hv (off_of N hf) (F.keeps hk) (news_add F N hk hf ho)
theorem flags_call {z : Nat} {tz : Tok} {D : Addr} {ys : List Value} {ds : List Int} (X : (Mine.hd.heap_39 w.params).In h₀) (T : Top p loose mean mg mb h₀) (F : Fr h₀ L s.heap m) (N : News h₀ L s.heap news) (hD : (D, LCg.lst ys) ∈ news) (hi : IntsAre ys ds) (hlen : ds.length = 6)
    (hz : z < 16) (hb : ∀ k, k < 4 → 0 ≤ ds.getD k 0 ∧ ds.getD k 0 < 18)
    (hd : dp + 10 < recursionLimit) (hu : un + 100 < cLine)
    (h : ∀ T vs h' tk, BysAre vs (wordsB ds z) → (∀ p ∈ news, p.1 ≠ T) → Fr h₀ L h' m → News h₀ L h' ((T, tupO vs) :: news) → Q (.ref T) { s with heap := h', toks := tk }) :
    wpAny (model PySem.Challenge.rw_sr0016_01.row.prog w) (AA dp fr gd un) (call (.ref 104) [.int (z : Int) tz, .ref D]) Q E s := by
  refine wpAny_call (codeAny_mono (flags_c (X.keeps F.keep) (T.keeps F.keep) ⟨_, (N _ hD).1, rfl, _, rfl⟩ hi hlen (by omega) (by omega) hb hd hu) ?_)
  rintro r s' ⟨U, rfl, ⟨h', tk, rfl, hk⟩, hf, vs, ho, hv⟩
  rw [← words_flags ds z 4 (Nat.le_refl _)] at hv
  exact h U vs h' tk hv (off_of N hf) (F.keeps hk) (news_add F N hk hf ho)
def foesL (mk : Int) (ns : List Int) : List Int := ns.map fun n => ((2 * mk).fdiv (2 ^ n.toNat)).fmod 2
theorem foes_call {mk : Int} {tm : Tok} {l : Addr} {vs : List Value} {ns : List Int} {k : Nat} (X : (Mine.hd.heap_39 w.params).In h₀) (T : Top p loose mean mg mb h₀) (F : Fr h₀ L s.heap m) (N : News h₀ L s.heap news) (hl : (l, ({ cls := .type "list", data := .seq vs.toArray k } : Obj)) ∈ news) (hi : IntsAre vs ns) (hn : ns.length = 16)
    (hm0 : 0 ≤ mk) (hm1 : mk < 1048576) (hb : ∀ n ∈ ns, 0 ≤ n ∧ n ≤ 20)
    (hd : dp + 10 < recursionLimit) (hu : un + 100 < cLine)
    (h : ∀ D ys h' tk, IntsAre ys (foesL mk ns) → (∀ p ∈ news, p.1 ≠ D) → Fr h₀ L h' m → News h₀ L h' ((D, LCg.lst ys) :: news) → Q (.ref D) { s with heap := h', toks := tk }) :
    wpAny (model PySem.Challenge.rw_sr0016_01.row.prog w) (AA dp fr gd un) (call (.ref 109) [.ref l, .int mk tm]) Q E s := by
  refine wpAny_call (codeAny_mono (foes_c (X.keeps F.keep) (T.keeps F.keep) ⟨_, (N _ hl).1, rfl, _, rfl⟩ hi (by omega) hm0 hm1 hb hd hu) ?_)
  rintro r s' ⟨D, ys, rfl, ⟨h', tk, rfl, hk⟩, hf, ho, hI⟩
  exact h D ys h' tk hI (off_of N hf) (F.keeps hk) (news_add F N hk hf ho)
theorem plain_call {D : Addr} {ys : List Value} {ds : List Int} (X : (Mine.hd.heap_39 w.params).In h₀) (T : Top p loose mean mg mb h₀) (F : Fr h₀ L s.heap m) (N : News h₀ L s.heap news) (hD : (D, LCg.lst ys) ∈ news) (hi : IntsAre ys ds) (hlen : ds.length = 6)
    (hb : ∀ k, k < 4 → 0 ≤ ds.getD k 0 ∧ ds.getD k 0 < 18)
    (hd : dp + 10 < recursionLimit) (hu : un + 100 < cLine)
    (h : ∀ G gv h' tk, IntsAre gv (plainL ds 4) → (∀ p ∈ news, p.1 ≠ G) → Fr h₀ L h' m → News h₀ L h' ((G, W.listOf gv.toArray 0) :: news) → Q (.ref G) { s with heap := h', toks := tk }) :
    wpAny (model PySem.Challenge.rw_sr0016_01.row.prog w) (AA dp fr gd un) (call (.ref 128) [.ref D]) Q E s := by
  refine wpAny_call (codeAny_mono (plain_c (X.keeps F.keep) (T.keeps F.keep) ⟨_, (N _ hD).1, rfl, _, rfl⟩ hi hlen hb hd hu) ?_)
  rintro r s' ⟨G, gv, rfl, ⟨h', tk, rfl, hk⟩, hf, ho, hI⟩
  exact h G gv h' tk hI (off_of N hf) (F.keeps hk) (news_add F N hk hf ho)
theorem sums_call {l : Addr} {vs : List Value} {fs : List Int} {k : Nat} (X : (Mine.hd.heap_39 w.params).In h₀) (T : Top p loose mean mg mb h₀) (F : Fr h₀ L s.heap m) (N : News h₀ L s.heap news) (hl : (l, ({ cls := .type "list", data := .seq vs.toArray k } : Obj)) ∈ news) (hi : IntsAre vs fs) (hn : fs.length = 16)
    (hd : dp + 40 < recursionLimit) (hu : un + 300 < cLine)
    (h : ∀ G gv gs h' tk, IntsAre gv gs → SumTab fs gs 4 → (∀ p ∈ news, p.1 ≠ G) → Fr h₀ L h' m → News h₀ L h' ((G, W.listOf gv.toArray 0) :: news) → Q (.ref G) { s with heap := h', toks := tk }) :
    wpAny (model PySem.Challenge.rw_sr0016_01.row.prog w) (AA dp fr gd un) (call (.ref 133) [.ref l]) Q E s := by
  refine wpAny_call (codeAny_mono (su_c (X.keeps F.keep) (T.keeps F.keep) ⟨_, (N _ hl).1, rfl, _, rfl⟩ hi hn hd hu) ?_)
  rintro r s' ⟨G, gv, gs, rfl, ⟨h', tk, rfl, hk⟩, hf, ho, hI, hS⟩
  exact h G gv gs h' tk hI hS (off_of N hf) (F.keeps hk) (news_add F N hk hf ho)
/-- `pre` in front of the table, `post` behind it -/
theorem chan_call {l : Addr} {vs : List Value} {fs : List Int} {pre post : List (Addr × Obj)} (X : (Mine.hd.heap_39 w.params).In h₀) (T : Top p loose mean mg mb h₀) (C : CodeHd h₀ 115 111) (hg : h₀.get? 111 = none) (F : Fr h₀ L s.heap m)
    (N : News h₀ L s.heap (pre ++ (111, tabObj #[]) :: post)) (hl : (l, LCg.lst vs) ∈ pre) (hne : ∀ p ∈ pre, p.2 ≠ tabObj #[]) (hne2 : ∀ p ∈ post, p.2 ≠ tabObj #[]) (hi : IntsAre vs fs) (hn : fs.length = 16)
    (hd : dp + 40 < recursionLimit) (hu : un + 300 < cLine)
    (h : ∀ G gv gs ps h' tk, IntsAre gv gs → gs.length = 16 → (∀ x, x < 16 → MexAt fs gs x) → Fr h₀ L h' m → News h₀ L h' ((G, LCg.lst gv) :: (pre ++ (111, tabObj ps) :: post)) → Q (.ref G) { s with heap := h', toks := tk }) :
    wpAny (model PySem.Challenge.rw_sr0016_01.row.prog w) (AA dp fr gd un) (call (.ref 123) [.ref l]) Q E s := by
  have key : ∀ p ∈ pre ++ (111, tabObj #[]) :: post, p.2 ≠ tabObj #[] → p.1 ≠ 111 := fun p hp h1 e => by
    have h2 := (N p hp).1
    have h3 := (N (111, tabObj #[]) (List.mem_append_right _ (.head _))).1
    rw [e] at h2
    exact h1 (Option.some.inj (h2.symm.trans h3))
  have hpre : ∀ p ∈ pre, p.1 ≠ 111 := fun p hp => key p (List.mem_append_left _ hp) (hne p hp)
  have hpost : ∀ p ∈ post, p.1 ≠ 111 := fun p hp => key p (List.mem_append_right _ (.tail _ hp)) (hne2 p hp)
  have ht := N (111, tabObj #[]) (List.mem_append_right _ (.head _))
  have hl2 := N _ (List.mem_append_left _ hl)
  refine wpAny_call (codeAny_mono (ch_c X T C F.keep hg ht.1 hl2.1 (hpre _ hl) hi hn hd hu) ?_)
  rintro r s' ⟨G, gv, gs, rfl, h', tk, rfl, hk, hf, ho, hI, hl16, hM, ps, hps⟩
  have hGL : G ≠ L := fun e => by
    obtain ⟨_, _, _, e2, _⟩ := F.ns
    rw [← e, hf] at e2; cases e2
  have hG0 : h₀.get? G = none := by
    cases e : h₀.get? G with
    | none => rfl
    | some o' => rw [F.keep _ _ e] at hf; cases hf
  refine h G gv gs ps h' tk hI hl16 hM (LCg.fr_but F (fun b o hb => hk b o (fun e => hb (List.mem_singleton.mpr e))) (Ne.symm ht.2.1) hg) ?_
  intro q hq
  rcases List.mem_cons.mp hq with rfl | hq
  · exact ⟨ho, hGL, hG0⟩
  rcases List.mem_append.mp hq with hq | hq
  · exact ⟨hk _ _ (hpre q hq) (N q (List.mem_append_left _ hq)).1, (N q (List.mem_append_left _ hq)).2⟩
  rcases List.mem_cons.mp hq with rfl | hq
  · exact ⟨hps, ht.2⟩
  · exact ⟨hk _ _ (hpost q hq) (N q (List.mem_append_right _ (.tail _ hq))).1, (N q (List.mem_append_right _ (.tail _ hq))).2⟩
end
end Mine
end
section
open PySem PySem.W PyProof.Rows PySem.Calls PySem.Spec
set_option maxHeartbeats 1000000
namespace Mine
theorem post_true (ns : List Int) : PySem.Challenge.rw_sr0016_01.row.claim.post [ofPy (PyData.list (List.map PyData.int ns))] (WData.bool true) [ofPy (PyData.list (List.map PyData.int ns))] = true := by
  kc_post
theorem raises_false (ns : List Int) (cls : ExcName) : PySem.Challenge.rw_sr0016_01.row.claim.raises [ofPy (PyData.list (List.map PyData.int ns))] cls = false := by
  first | rfl | (exact raisesW_false (by wrow_none_raised) _)
end Mine
end
section
open PySem PySem.W PyProof.Rows PySem.Calls PySem.Spec
set_option maxHeartbeats 600000
namespace Mine
local macro_rules | `(tactic| walk_at "m_steps") => `(tactic| repeat' (first | (k_unfold; (try dsimp only)) | ((fail_if_success (with_reducible show TurnEnd _ _ _ _ _ _ _ _)); (fail_if_success (with_reducible show Ends _)); (fail_if_success (with_reducible show LCg.CompEnd _ _ _ _ _ _ _ _ _ _ _ _ _ _)); (fail_if_success (with_reducible show LCg.CompSrc _ _ _ _ _ _ _ _ _ _ _ _ _ _)); (fail_if_success (with_reducible show LCt.CompSrcT _ _ _ _ _ _ _ _ _ _ _ _ _ _ _)); (fail_if_success (with_reducible show CompTup _ _ _ _ _ _ _ _ _ _ _ _ _ _)); first | walk1 | (dsimp only; walk1))))
theorem reply_sz (z : Int) (ds : List Int) : (⟨(replyUp z ds 4 ++ [41]).toArray⟩ : Str).cps.size ≤ 1000 := by
  show (replyUp z ds 4 ++ [41]).toArray.size ≤ 1000
  have := replyUp_le z ds 4
  rw [List.size_toArray, List.length_append, List.length_singleton]
  omega
local macro_rules | `(tactic| walk_at "eval Name") => `(tactic| (k_here; (with_reducible show wpAny _ _ (eval (Expr.Name _ _) (envOfC _ _ _ _ _)) _ _ _); (with_reducible rename News _ _ _ _ => N9); k_dflt (refine ldCN N9 (by rfl) (by k_mem) (by with_reducible assumption) ?_)))
local macro_rules | `(tactic| walk_at "getMethod str") => `(tactic| (k_here; k_dflt (refine getm_st ?_)))
local macro_rules | `(tactic| walk_at "call builtin:str.encode") => `(tactic| (k_here; k_dflt (refine En.encode_call (sent_ascii (by assumption)) (sent_size (by assumption)).1 (sent_size (by assumption)).2 ?_); intro u'; (try dsimp only)))
local macro_rules | `(tactic| walk_at "call ref") => `(tactic| (k_here; (with_reducible show wpAny _ _ (call (Value.ref 92) _) _ _ _); (with_reducible rename Fr _ _ _ _ => F9); (with_reducible rename News _ _ _ _ => N9); k_dflt (refine drawn_call (by assumption) (by assumption) F9 N9 (by assumption) (by assumption) (by assumption) (by (dsimp only [AA]; omega)) (by (dsimp only [AA]; omega)) ?_); intro D' ys' ds' h' tk' hI' h6' hb' hc' hoff' F' N'; k_sweep; (try dsimp only)))
local macro_rules | `(tactic| walk_at "call ref") => `(tactic| (k_here; (with_reducible show wpAny _ _ (call (Value.ref 99) _) _ _ _); (with_reducible rename Fr _ _ _ _ => F9); (with_reducible rename News _ _ _ _ => N9); k_dflt (refine reply_call (by assumption) (by assumption) F9 N9 (by k_mem) (by assumption) (by assumption) (by assumption) (by assumption) (by assumption) (by (dsimp only [AA]; omega)) (by (dsimp only [AA]; omega)) ?_); intro u' h' tk' F' N'; k_sweep; (try dsimp only)))
local macro_rules | `(tactic| walk_at "call ref") => `(tactic| (k_here; (with_reducible show wpAny _ _ (call (Value.ref 87) _) _ _ _); (with_reducible rename Fr _ _ _ _ => F9); (with_reducible rename News _ _ _ _ => N9); k_dflt (refine quote_call (by assumption) (by assumption) F9 N9 (reply_sz _ _) (by (dsimp only [AA]; omega)) (by (dsimp only [AA]; omega)) ?_); intro u' h' tk' F' N'; k_sweep; (try dsimp only)))
local macro_rules | `(tactic| walk_at "call ref") => `(tactic| (k_here; (with_reducible show wpAny _ _ (call (Value.ref 70) _) _ _ _); (with_reducible rename Fr _ _ _ _ => F9); (with_reducible rename News _ _ _ _ => N9); k_dflt (refine parse_call (by assumption) (by assumption) F9 N9 (by assumption) (by (dsimp only [AA]; omega)) (by (dsimp only [AA]; omega)) ?_); intro T' vs' h' tk' hB' hoff' F' N'; k_sweep; (try dsimp only)))
local macro_rules | `(tactic| walk_at "call ref") => `(tactic| (k_here; (with_reducible show wpAny _ _ (call (Value.ref 104) _) _ _ _); (with_reducible rename Fr _ _ _ _ => F9); (with_reducible rename News _ _ _ _ => N9); k_dflt (refine flags_call (by assumption) (by assumption) F9 N9 (by k_mem) (by assumption) (by assumption) (by assumption) (by assumption) (by (dsimp only [AA]; omega)) (by (dsimp only [AA]; omega)) ?_); intro T' vs' h' tk' hB' hoff' F' N'; k_sweep; (try dsimp only)))
local macro_rules | `(tactic| walk_at "call ref") => `(tactic| (k_here; (with_reducible show wpAny _ _ (call (Value.ref 128) _) _ _ _); (with_reducible rename Fr _ _ _ _ => F9); (with_reducible rename News _ _ _ _ => N9); k_dflt (refine plain_call (by assumption) (by assumption) F9 N9 (by k_mem) (by assumption) (by assumption) (by assumption) (by (dsimp only [AA]; omega)) (by (dsimp only [AA]; omega)) ?_); intro G' gv' h' tk' hI' hoff' F' N'; k_sweep; (try dsimp only)))
local macro_rules | `(tactic| walk_at "eval ListComp") => `(tactic| (k_here; (with_reducible show wpAny _ _ (eval (Expr.ListComp _ [⟨_, _, [], _⟩] _ _) (envOfC _ _ _ _ _)) _ _ _); k_dflt (refine LCg.ListComp_U (F₀ := by k_asm) (by with_unfolding_all rfl) (by decide) (by rfl) (by decide) (by rfl) ?_)))
local macro_rules | `(tactic| walk_at "eval ListComp") => `(tactic| (k_here; (with_reducible show wpAny _ _ (eval (Expr.ListComp _ _ _ _) (compEnvC _ _ _ _)) _ _ _); k_dflt (refine ListComp_tup (F₀ := by k_asm) (by with_unfolding_all rfl) (by decide) (by rfl) (by decide) (by rfl) ?_)))
local macro_rules | `(tactic| walk_at "m_stepsd") => `(tactic| repeat' (first | (k_unfold; (try dsimp only)) | ((fail_if_success (with_reducible show TurnEnd _ _ _ _ _ _ _ _)); (fail_if_success (with_reducible show Ends _)); (fail_if_success (with_reducible show LCg.CompEnd _ _ _ _ _ _ _ _ _ _ _ _ _ _)); (fail_if_success (with_reducible show LCg.CompSrc _ _ _ _ _ _ _ _ _ _ _ _ _ _)); (fail_if_success (with_reducible show LCt.CompSrcT _ _ _ _ _ _ _ _ _ _ _ _ _ _ _)); (fail_if_success (with_reducible show CompTup _ _ _ _ _ _ _ _ _ _ _ _ _ _)); (fail_if_success (with_reducible show wpAny _ _ (call (Value.ref 123) _) _ _ _)); (fail_if_success (with_reducible show wpAny _ _ (compareOp CmpOp.Eq (Value.ref _) (Value.ref _)) _ _ _)); (walk1; (try dsimp only)))))
local macro_rules | `(tactic| walk_at "m_to_ne") => `(tactic| (repeat' (first | (k_unfold; (try dsimp only)) | ((fail_if_success (with_reducible show wpAny _ _ (compareOp CmpOp.NotEq (Value.ref _) (Value.ref _)) _ _ _)); first | walk1 | (dsimp only; walk1)))))
local macro_rules | `(tactic| walk_at "call ref") => `(tactic| (k_here; (with_reducible show wpAny _ _ (call (Value.ref 109) _) _ _ _); (with_reducible rename Fr _ _ _ _ => F9); (with_reducible rename News _ _ _ _ => N9); k_dflt (refine foes_call (by assumption) (by assumption) F9 N9 (by k_mem) (by assumption) (by assumption) (by assumption) (by assumption) (by assumption) (by (dsimp only [AA]; omega)) (by (dsimp only [AA]; omega)) ?_); intro D' ys' h' tk' hI' hoff' F' N'; k_sweep; (try dsimp only)))
local macro_rules | `(tactic| walk_at "call ref") => `(tactic| (k_here; (with_reducible show wpAny _ _ (call (Value.ref 133) _) _ _ _); (with_reducible rename Fr _ _ _ _ => F9); (with_reducible rename News _ _ _ _ => N9); k_dflt (refine sums_call (by assumption) (by assumption) F9 N9 (by k_mem) (by assumption) (by assumption) (by (dsimp only [AA]; omega)) (by (dsimp only [AA]; omega)) ?_); intro G' gv' gs' h' tk' hI' hS' hoff' F' N'; k_sweep; (try dsimp only)))
theorem mv7 {α : Type} {t a b c d e f : α} {r : List α} : ∀ p ∈ a :: b :: c :: d :: e :: f :: t :: r, p ∈ t :: a :: b :: c :: d :: e :: f :: r := by
  intro p hp
  simp only [List.mem_cons] at hp ⊢
  rcases hp with h | h | h | h | h | h | h | h <;> simp [h]
theorem mv8 {α : Type} {t a b c d e f g : α} {r : List α} : ∀ p ∈ a :: b :: c :: d :: e :: f :: g :: t :: r, p ∈ t :: a :: b :: c :: d :: e :: f :: g :: r := by
  intro p hp
  simp only [List.mem_cons] at hp ⊢
  rcases hp with h | h | h | h | h | h | h | h | h <;> simp [h]
theorem lens_snoc {ws : List (List UInt8)} {ls : List Value} {j : Nat} {t : Tok} (h : IntsAre ls ((lensB ws).take j)) (hj : j < ws.length) : IntsAre (ls ++ [.int (((ws.getD j []).toArray.size : Nat) : Int) t]) ((lensB ws).take (j + 1)) := by
  have e : (lensB ws)[j]? = some (((ws.getD j []).toArray.size : Nat) : Int) := by
    rw [lensB, List.getElem?_map, List.getElem?_eq_getElem hj, List.getD_eq_getElem?_getD, List.getElem?_eq_getElem hj]
    rfl
  rw [List.take_add_one, e]
  exact IntsAre.append h (.cons _ t .nil)
theorem told_snoc {ds : List Int} {zs : List Value} {us : List Value} {i : Nat} {t : Tok} (h : IntsAre zs (toldL ds i)) (hi : i < 16) (hB : BysAre us (wordsB ds i)) : IntsAre (zs ++ [.int (List.take us.toArray.size (lensB (wordsB ds i))).sum t]) (toldL ds (i + 1)) := by
  have e : us.toArray.size = (lensB (wordsB ds i)).length := by rw [List.size_toArray, hB.1, lensB, List.length_map]
  rw [e, List.take_length, lens_sum ds hi, toldL_succ]
  exact IntsAre.append h (.cons _ t .nil)
theorem lst_ne {vs : List Value} : LCg.lst vs ≠ tabObj #[] := fun e => by
  have := congrArg Obj.cls e
  cases this
theorem cell_ne {o : Obj} {v : Option Value} (h : o.data = .cell v) : o ≠ tabObj #[] := fun e => by
  rw [e] at h; cases h
theorem tup_ne {nw : List (Addr × Obj)} (h : ∀ p ∈ nw, ∃ vs, p.2 = tupO vs) : ∀ p ∈ nw, p.2 ≠ tabObj #[] := fun p hp e => by
  obtain ⟨vs, e2⟩ := h p hp
  rw [e2] at e
  have := congrArg Obj.cls e
  cases this
theorem callerA_AA : ∃ dp fr gd un, callerA = AA dp fr gd un ∧ dp + 60 < recursionLimit ∧ un + 400 < cLine := ⟨_, _, _, _, rfl, by decide +kernel, by decide +kernel⟩
theorem ghost_none {K : Frag} {h : Heap} (X : K.In (ghostOf h [(115, 111)])) : (ghostOf h [(115, 111)]).get? 111 = none := hideAll_none _ (List.mem_singleton.mpr rfl)
set_option maxHeartbeats 2000000 in
theorem fin : PySem.Challenge.rw_sr0016_01.Holds := by
  refine Mine.hd ?_
  k_go0
  rename (Mine.hd.heap_39 _).In (ghostOf _ _) => X
  rename Top _ _ _ _ _ (ghostOf _ _) => T
  have hg := ghost_none X
  rename Heap.IsList (ghostOf _ _) _ _ => hl
  rename IntsAre _ _ => hI
  rename CodeHd _ _ _ => C
  rename Fr _ _ _ _ => F
  rename News _ _ _ _ => N
  rename (¬ _ < _) => h63
  rename (111 < _) => l0
  rename (_ = Data.cell _) => d0
  rename_i w s₀ s₁ mg mb G Y fa o pm cd doc ho hcd hgens X1 V1 T1 B1 TE1 TW1 ns hs hlay hL1 hr1 hl2 w5 w4 la vs w1a hL ra w1 r0 hr hcond hD h₁ tk₁ c X0 K
  clear K X0 hD hcond hr r0 w1 ra hL hl2 hr1 hL1 hlay hs TW1 TE1 B1 T1 V1 X1 hT8 hT9 hcd ho Y G
  have hn : ns.length ≤ 63 := by omega
  clear h63
  generalize ghostOf s₁.heap [(115, 111)] = h₀ at *
  generalize s₁.heap.objs.size = L at *
  dsimp only at C
  obtain ⟨m0, F0, e0⟩ : ∃ m0, Fr h₀ L h₁ m0 ∧ m0 (Str.ofString "script") = some (.ref la) := ⟨_, F, rfl⟩
  obtain ⟨v0, d1⟩ : ∃ v0, c.data = .cell v0 := ⟨_, d0⟩
  clear F d0
  obtain ⟨dp, fr, gd, un, hA, hd, hu⟩ := callerA_AA
  rw [hA]
  clear hA
  (try k_fold)
  walk_at "m_steps"
  rename IsRange _ _ _ _ _ _ _ _ => hR
  rename Fr _ _ _ _ => F1
  rename News _ _ _ _ => N1
  (try simp only [List.cons_append, List.nil_append] at N1)
  rename (List.length _ = 6) => h6
  rename (∀ k, k < 4 → _) => hb
  rename (∀ k, k < 6 → _) => hb6
  rename IntsAre _ _ => hD
  rename (List Int) => ds
  refine LCg.CompSrc.range (n := 16) (by rfl) F1 N1 hR (by decide) (by decide) (by rw [sizeLine_eq]; omega) ?_
  intro g'
  refine restI (fun i ys nw => ∃ tups, nw = [_, _, _] ++ tups ∧ TupsIn tups ys (wordsL ds i)) ⟨[], rfl, .nil⟩ ?_ ?_
  · rintro i ys nw v I oI C oC Dn m₂ h tk E' hi ⟨t, rfl⟩ ⟨tups, rfl, hJ⟩ hC hx F N off ne
    clear F1 N1 hR
    simp only [List.cons_append, List.nil_append] at N off
    rw [Int.zero_add] at hx
    (try simp only [LCg.Off3] at off)
    have hz0 : (0 : Int) ≤ (i : Int) := by omega
    have hz1 : (i : Int) < 16 := by omega
    walk_at "m_steps"
    rename Fr _ _ _ _ => F9
    rename News _ _ _ _ => N9
    rename BysAre _ _ => hB
    rename (∀ (p : Addr × Obj), p ∈ _ → p.1 ≠ _) => hT9
    exact LCg.CompEnd.intro F9 N9 (_ :: _ :: _ :: _ :: tups) mv7 ⟨off.1, off.2.1, off.2.2.1, ⟨Ne.symm (hT9 _ (.head _)), Ne.symm (hT9 _ (.tail _ (.head _))), Ne.symm (hT9 _ (.tail _ (.tail _ (.head _))))⟩, off.2.2.2⟩ trivial ⟨_ :: tups, rfl, by rw [wordsL_succ]; exact hJ.snoc hB⟩
  · rintro ys nw ⟨tups, rfl, hJ⟩
    clear F1 N1 hR
    walk_at "m_steps"
    rename IsRange _ _ _ _ _ _ _ _ => hR
    rename Fr _ _ _ _ => F1
    rename News _ _ _ _ => N1
    refine LCg.CompSrc.range (n := 16) (by rfl) F1 N1 hR (by decide) (by decide) (by rw [sizeLine_eq]; omega) ?_
    intro g2'
    refine restI (fun i ys nw => ∃ t2, nw = [_, _, _, _] ++ (t2 ++ tups) ∧ TupsIn t2 ys (wordsL ds i)) ⟨[], rfl, .nil⟩ ?_ ?_
    · rintro i ys2 nw v I oI C oC Dn m₂ h tk E' hi ⟨t, rfl⟩ ⟨t2, rfl, hJ2⟩ hC hx F N off ne
      clear F1 N1 hR
      simp only [List.cons_append, List.nil_append] at N off
      rw [Int.zero_add] at hx
      (try simp only [LCg.Off3] at off)
      have hz0 : (0 : Int) ≤ (i : Int) := by omega
      have hz1 : (i : Int) < 16 := by omega
      walk_at "m_steps"
      rename Fr _ _ _ _ => F9
      rename News _ _ _ _ => N9
      rename BysAre _ _ => hB
      rename (∀ (p : Addr × Obj), p ∈ _ → p.1 ≠ _) => hT9
      exact LCg.CompEnd.intro F9 N9 (_ :: _ :: _ :: _ :: _ :: (t2 ++ tups)) mv8 ⟨off.1, off.2.1, off.2.2.1, off.2.2.2.1, ⟨Ne.symm (hT9 _ (.head _)), Ne.symm (hT9 _ (.tail _ (.head _))), Ne.symm (hT9 _ (.tail _ (.tail _ (.head _))))⟩, off.2.2.2.2⟩ trivial ⟨_ :: t2, rfl, by rw [wordsL_succ]; exact hJ2.snoc hB⟩
    · rintro ys2 nw ⟨t2, rfl, hJ2⟩
      clear F1 N1 hR
      walk_at "m_to_ne"
      rename News _ _ _ _ => N9
      (try simp only [List.cons_append, List.nil_append] at N9)
      (try dsimp only)
      refine ne_tups N9 (by k_mem) (by k_mem) hJ hJ2 (fun p hp => .tail _ (.tail _ (.tail _ (.tail _ (.tail _ (List.mem_append_right _ hp)))))) (fun p hp => .tail _ (.tail _ (.tail _ (.tail _ (.tail _ (List.mem_append_left _ hp)))))) (by show un + 3 + 10 < cLine; omega) ?_
      have d4 : 0 ≤ ds.getD (Int.toNat 4) 0 ∧ ds.getD (Int.toNat 4) 0 < 1024 := hb6 4 (by decide)
      have d5 : 0 ≤ ds.getD (Int.toNat 5) 0 ∧ ds.getD (Int.toNat 5) 0 < 1024 := hb6 5 (by decide)
      walk_at "m_stepsd"
      rename Fr _ _ _ _ => F1
      rename News _ _ _ _ => N1
      refine LCg.CompSrc.ledger (by rfl) F1 N1 (by k_mem) (by rw [sizeLine_eq]; simp only [List.size_toArray, hJ.1, wordsL_len]; omega) ?_
      intro g3'
      refine restI (fun i zs nw => nw = _ ∧ IntsAre zs (toldL ds i)) ⟨rfl, .nil⟩ ?_ ?_
      · rintro i zs nw v I oI C oC Dn m₂ h tk E' hi hv ⟨rfl, hZ⟩ hC hx F N off ne
        clear F1 N1
        have hi16 : i < 16 := by rw [List.size_toArray, hJ.1, wordsL_len] at hi; exact hi
        obtain ⟨T9, us, rfl, hTm, hB⟩ := hJ.at (i := i) (by simpa using hv)
        rw [wordsL_at ds hi16] at hB
        have hw := words_bd hb i
        (try simp only [LCg.Off3] at off)
        walk_at "m_steps"
        refine ⟨T9, us, _, rfl, rfl, F, N, .tail _ (.tail _ (.tail _ (.tail _ (.tail _ (.tail _ (.tail _ (.tail _ (List.mem_append_right _ hTm)))))))), by rw [sizeLine_eq, List.size_toArray, hB.1]; omega, fun g => ?_⟩
        refine restI (fun j ls nw => nw = _ ∧ IntsAre ls ((lensB (wordsB ds i)).take j)) ⟨rfl, .nil⟩ ?_ ?_
        · rintro j ls nw v I2 oI2 C2 oC2 D2 m3 h2 tk2 E2 hj hv2 ⟨rfl, hJl⟩ hC2 hx2 F N off2 ne2
          have hj' : j < (wordsB ds i).length := by rw [List.size_toArray, hB.1] at hj; exact hj
          obtain ⟨u9, hu9⟩ := hB.2 j hj'
          obtain rfl : v = _ := Option.some.inj ((show us[j]? = some v by simpa using hv2).symm.trans hu9)
          walk_at "m_steps"
          have hw9 := hw.2 ((wordsB ds i).getD j []) (by rw [List.getD_eq_getElem?_getD, List.getElem?_eq_getElem hj']; exact List.getElem_mem hj')
          refine len_bytes (by rw [List.size_toArray]; omega) ?_
          exact LCg.CompEnd.intro F N _ (fun p hp => hp) off2 (.tail _ (.tail _ (.tail _ (.tail _ (.tail _ (.tail _ (.tail _ (.tail _ (List.mem_append_right _ hTm))))))))) ⟨rfl, lens_snoc hJl hj'⟩
        · rintro ls nw ⟨rfl, hJl⟩
          walk_at "m_steps"
          rename Fr _ _ _ _ => F9
          rename News _ _ _ _ => N9
          exact LCg.CompEnd.intro F9 N9 _ (fun p hp => .tail _ hp) (by simp only [LCg.Off3]; exact off) (Or.inr ⟨_, .tail _ (.head _), rfl, _, rfl⟩) ⟨rfl, told_snoc hZ hi16 hB⟩
      · rintro zs nw ⟨rfl, hZ⟩
        clear F1 N1
        rw [List.size_toArray, hJ.1, wordsL_len] at hZ
        have hm0 : 0 ≤ ds.getD (Int.toNat 4) 0 + 1024 * ds.getD (Int.toNat 5) 0 := by omega
        have hm1 : ds.getD (Int.toNat 4) 0 + 1024 * ds.getD (Int.toNat 5) 0 < 1048576 := by omega
        have htb := told_bd (ds := ds) (n := 16)
        have htl := told_len ds 16
        walk_at "m_stepsd"
        rename Fr _ _ _ _ => F9
        rename News _ _ _ _ => N9
        rename IntsAre _ (foesL _ _) => hI9
        rename (Obj.data _ = Data.cell _) => dc
        refine chan_call (pre := [_, _, _, _, _, _]) (post := t2 ++ tups) X T (by assumption) hg F9 N9 (.head _) ?_ ?_ hI9 (by rw [foesL, List.length_map, told_len]) (by (dsimp only [AA]; omega)) (by (dsimp only [AA]; omega)) ?_
        · intro p hp
          rcases List.mem_cons.mp hp with rfl | hp
          · exact lst_ne
          rcases List.mem_cons.mp hp with rfl | hp
          · exact lst_ne
          rcases List.mem_cons.mp hp with rfl | hp
          · exact lst_ne
          rcases List.mem_cons.mp hp with rfl | hp
          · exact lst_ne
          rcases List.mem_cons.mp hp with rfl | hp
          · exact lst_ne
          · rw [List.mem_singleton.mp hp]; exact cell_ne dc
        · intro p hp
          rcases List.mem_append.mp hp with hp | hp
          · exact tup_ne hJ2.2.2 p hp
          · exact tup_ne hJ.2.2 p hp
        intro G gv gs ps h' tk' hGI hG16 hGM F' N'
        simp only [List.cons_append, List.nil_append] at N'
        clear F9 N9
        (try dsimp only)
        have hpl := plain_len ds 4
        have hpb : ∀ x ∈ plainL ds 4, 0 ≤ x ∧ x ≤ 20 := by rw [← told_plain]; exact htb
        have hfl : (foesL (ds.getD (Int.toNat 4) 0 + 1024 * ds.getD (Int.toNat 5) 0) (plainL ds 4)).length = 16 := by rw [foesL, List.length_map, hpl]
        walk_at "m_stepsd"
        rename Fr _ _ _ _ => F9
        rename News _ _ _ _ => N9
        rename SumTab _ _ _ => hS9
        rename IntsAre _ _ => hS8
        rw [← told_plain] at hS9
        have heq := chan_eq hG16 hGM hS9
        refine ke_eq_ints ⟨_, (N9 _ (.tail _ (.tail _ (.tail _ (.head _))))).1, rfl, _, rfl⟩ ⟨_, (N9 _ (.head _)).1, rfl, _, rfl⟩ hGI hS8 (by show un + 3 + 64 < cLine; omega) ?_
        rw [decide_eq_true heq]
        (try dsimp only)
        walk_at "m_stepsd"
        exact ⟨.inl ⟨.bool true, .bool true, [], rfl, raises_false ns, .bool true, post_true ns, fun _ => ⟨.nil, fun _ h => nomatch h⟩⟩, F9.keep, rfl, hgens⟩
end Mine
end
end
theorem PySem.Challenge.cw_sr0016_01_holds : PySem.Challenge.rw_sr0016_01.Holds := by
  exact Mine.fin
