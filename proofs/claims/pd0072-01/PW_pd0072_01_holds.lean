import PyProof.Rows.All
import Wide.All
import OpenK.AllK
import Wide.FinOn
import PySem.Challenge.RW_pd0072_01
open PySem PySem.W PySem.Calls PyProof.Rows
set_option Elab.async false
set_option maxRecDepth 100000
set_option linter.unusedVariables false
namespace Mine
/-! the head: the top is run in one check, over a tree of objects (in pieces its text compiles to 18 MB, too large beside the rest) -/
/-- the top's run over a tree -/
def runT (tb : String → Option Builtin) (p : Program) (w : World) (n₀ : Nat) (ann : Option Value) : Nat → SharedT → Thread → Option SharedT
  | 0, _, _ => none
  | n + 1, s, t => match through t with
    | true => some s
    | false => match stepOk n₀ ann t with
      | false => none
      | true => match stepT (denote tb) p w s t with
        | some (s', t') => runT tb p w n₀ ann n s' t'
        | none => none
theorem runT_is {tb : String → Option Builtin} {p : Program} {w : World} {n₀ : Nat} {ann : Option Value} : ∀ {n : Nat} {s r : SharedT} {t : Thread}, runT tb p w n₀ ann n s t = some r → topRun tb p w n₀ ann n s.abs t = some r.abs
  | 0, _, _, _, h => nomatch h
  | n + 1, s, r, t, h => by
    unfold runT at h
    unfold topRun
    cases h1 : through t with
    | true => rw [h1] at h; cases h; rfl
    | false =>
      rw [h1] at h
      cases h2 : stepOk n₀ ann t with
      | false => rw [h2] at h; cases h
      | true =>
        rw [h2] at h
        cases h3 : stepT (denote tb) p w s t with
        | none => rw [h3] at h; cases h
        | some x =>
          rw [h3] at h
          dsimp only at h ⊢
          rw [stepT_spec h3]
          exact runT_is h
/-- the objects that stand before the top -/
noncomputable def bootT (P : Params) : BT := .node (boot_o_0 P) (.node (boot_o_1 P) (.node (boot_o_3 P) (.node (boot_o_7 P) .nil .nil) .nil) (.node (boot_o_5 P) (.node (boot_o_9 P) .nil .nil) .nil)) (.node (boot_o_2 P) (.node (boot_o_4 P) (.node (boot_o_8 P) .nil .nil) .nil) (.node (boot_o_6 P) (.node (boot_o_10 P) .nil .nil) .nil))
theorem bootT_abs (P : Params) : absHeap (bootT P) 11 {} = boot_heap P := by kernel_rfl
theorem boot_size (P : Params) : ((boot_heap P).isNs mainGlobals && (#[] : Array GenState).size == 0, (boot_heap P).objs.size, (boot_heap P).nsMap mainGlobals "__annotations__") = (true, 11, some (.ref 6)) := by kernel_rfl
/-- what the run must leave -/
noncomputable def seenT {α : Type} (p q : Program) (loose : List Str) (Xt : Shared → Bool) (Yf : Shared → α) (P : Params) (s : SharedT) :=
  (staticsOk (importedModules p.main.body) (boot_heap P) s.abs.heap && namesBound p s.abs.heap && gensDone s.abs && laidKept (boot_heap P) s.abs.heap, openSeen q loose (importedModules p.main.body) Xt true s.abs, Yf s.abs)
theorem left_by_tree {p q : Program} {loose : List Str} {Xt : Shared → Bool} {α : Type} {Yf : Shared → α} {Ya : World → α} {N : Nat}
    (plain : opening p = plainProg p.main.scope.names) (hN : Nat.ble 600 N = true) (fence : ∀ s, fenceModules? p s = some s)
    (run : ∀ (w : World) (os : OsState), (runT treeTable p w 11 (some (.ref 6)) N ⟨bootT w.params, 11, {}, #[], boot_drawn, boot_toks, os⟩ (topStub p)).map (seenT p q loose Xt Yf w.params) = some (true, openGood q loose, Ya w)) : LeftO p q loose Xt Yf Ya N := fun w => by
  obtain ⟨⟨h, gs, d, k, os⟩, e, e'⟩ := Option.map_eq_some_iff.mp (boot_open plain hN fence w)
  obtain ⟨rfl, rfl, rfl, rfl⟩ : h = boot_heap w.params ∧ gs = #[] ∧ d = boot_drawn ∧ k = boot_toks := by simpa using e'
  obtain ⟨z1, z2, z3⟩ : _ ∧ _ ∧ _ := by simpa only [Prod.mk.injEq] using boot_size w.params
  obtain ⟨sT, r, x⟩ := Option.map_eq_some_iff.mp (run w os)
  obtain ⟨x1, x2, x3⟩ : _ ∧ _ ∧ _ := by simpa only [seenT, Prod.mk.injEq] using x
  have r' := runT_is r
  have e0 : (⟨bootT w.params, 11, {}, #[], boot_drawn, boot_toks, os⟩ : SharedT).abs = ⟨boot_heap w.params, #[], boot_drawn, boot_toks, os⟩ := by unfold SharedT.abs; rw [bootT_abs]
  rw [e0] at r'
  have t : topFrom treeTable p w N ⟨boot_heap w.params, #[], boot_drawn, boot_toks, os⟩ = some sT.abs := by
    unfold topFrom
    dsimp only
    rw [z1, z2, z3, r']
    dsimp only [Option.bind]
    rw [x1]
  unfold openEnds
  rw [e]
  show (topFrom treeTable p w N _).map _ = _
  rw [t]
  exact congrArg some (Prod.ext x2 x3)
/-- of the text's tops the head looks at law alone; the rest is told by the heap -/
noncomputable def textView : Program := PySem.W.view PySem.Challenge.pw_pd0072_01 [27]
def others : List Str := ["_wall", "_dedent", "_plain_name", "ABCMeta", "_ABCLike", "_abc_plain_meta", "fspath", "_check_arg_types", "_get_sep", "join", "split", "basename", "commonpath", "_law_blanks", "_law_name", "_law_edited", "_law_hung", "_law_renamed", "_law_told"]
abbrev theRow : OpenRow := OpenLaw.row PySem.Challenge.rw_pd0072_01
/-- what is asked of the state at the top's end beside the defs -/
noncomputable def more (s : Shared) : Bool := xlAt textView [] s && recOk theRow.toRowW.records s
theorem more_xl (s : Shared) (e : more s = true) : XL textView [] (s.heap.nsMap mainGlobals) s.heap := xl_of s (Bool.and_eq_true_iff.mp e).1
theorem more_rec (s : Shared) (e : more s = true) : RecFacts theRow.toRowW.records s.heap := recFacts_of (Bool.and_eq_true_iff.mp e).2
theorem head_by (H : Hook) {d : DefRec} {kwd : List (Str × Expr)} (said : theRow.wellSaid = true) (h1 : defOf textView "law" = some (d, kwd)) (h2 : theRow.prog.theDef "law" = some (d.params, d.body, d.scope)) (h3 : kwWritten? d.params.kwonlyargs d.params.kw_defaults = some kwd)
    (run : ∀ (w : World) (os : OsState), (runT treeTable PySem.Challenge.pw_pd0072_01 w 11 (some (.ref 6)) 1300 ⟨bootT w.params, 11, {}, #[], boot_drawn, boot_toks, os⟩ (topStub PySem.Challenge.pw_pd0072_01)).map (seenT PySem.Challenge.pw_pd0072_01 textView others more H.obs w.params) = some (true, openGood textView others, H.val w))
    (some_script : theRow.toRowW.promised) (walk : WalkO textView others (XL textView []) H.says theRow.toRowW d kwd fun f vs => PySem.call f vs) : theRow.Holds :=
  holds_open (q := textView) (Xt := more) (left_by_tree (by kernel_rfl) (by decide) (fun s => by kernel_rfl) run) H.of H.keeps more_xl XL.keeps h1 h2 h3 more_rec rfl said (by decide +kernel) ⟨rfl, rfl, rfl, rfl, rfl, by decide +kernel⟩ some_script walk
local macro_rules | `(tactic| o_head $H) => `(tactic| (refine head_by $H (by assumption) (by rfl) (by rfl) (by rfl) ?run ?hw ?hc; (case run => (intro w os; kernel_rfl))))
set_option maxHeartbeats 8000000 in
open_top hd for PySem.Challenge.rw_pd0072_01


/-! the frame: what holds in a def's frame at a state -/

structure Wd (K : Frag) (h : Heap) : Prop where
  X : K.In h
  top : ∃ mg mb, h.Ns mainGlobals mg ∧ h.Ns builtinsNs mb ∧ ∀ x : Str, x ≠ "__name__" → mb x = bootBuiltins x
  lim : h.NoLimit

theorem Wd.keeps {K : Frag} {h h' : Heap} (W : Wd K h) (k : ∀ b o, h.get? b = some o → h'.get? b = some o) : Wd K h' :=
  ⟨W.X.keeps k, let ⟨mg, mb, a, b, c⟩ := W.top; ⟨mg, mb, a.keeps k, b.keeps k, c⟩, W.lim.keeps k⟩

def still (o : Obj) : Bool := match o.data with | .seq .. => true | .fields .. => true | .set .. => true | _ => false

/-- a list as an object -/
abbrev lstO (vs : List Value) (n : Nat) : Obj := { cls := .type "list", data := .seq vs.toArray n }
abbrev tupO (vs : List Value) : Obj := { cls := .type "tuple", data := .seq vs.toArray }

/-- what the ledger says of an object -/
inductive Kd where
  | tl (xs : List Str)
  | tw (xs : List Str)
  | il (ns : List Int)
  | ob (o : Obj)

def Shape (o : Obj) : Kd → Prop
  | .tl xs => ∃ l n, o = lstO (strValues l) n ∧ l.map (·.1) = xs
  | .tw xs => o.cls = .type "list" ∧ ∃ l n, o.data = .seq (strValues l).toArray n ∧ l.map (·.1) = xs
  | .il ns => ∃ (l : List (Int × Tok)) (n : Nat), o = lstO (l.map fun p => Value.int p.1 p.2) n ∧ l.map (·.1) = ns
  | .ob o' => o = o' ∧ still o' = true

def Is (h : Heap) (a : Addr) (k : Kd) : Prop := ∃ o, h.get? a = some o ∧ Shape o k

theorem Shape.still {o : Obj} {k : Kd} (h : Shape o k) : still o = true := by
  cases k with
  | tl xs => obtain ⟨l, n, rfl, _⟩ := h; rfl
  | tw xs => obtain ⟨_, l, n, e, _⟩ := h; simp [Mine.still, e]
  | il ns => obtain ⟨l, n, rfl, _⟩ := h; rfl
  | ob o' => obtain ⟨rfl, h⟩ := h; exact h
theorem Is.keeps {h h' : Heap} {a : Addr} {k : Kd} (x : Is h a k) (e : ∀ o, h.get? a = some o → h'.get? a = some o) : Is h' a k := let ⟨o, ho, r⟩ := x; ⟨o, e o ho, r⟩

def upd (m : Str → Option Value) (x : Str) (v : Value) : Str → Option Value := fun y => if y = x then some v else m y

structure In (K : Frag) (s₀ : Shared) (env : Env) (m cm : Str → Option Value) (N : List (Addr × Kd)) (s : Shared) : Prop where
  ks : Keeps s₀ s
  ns : s.heap.Ns env.locals m
  cell : ∀ n c, env.cells.lookup n = some c → s.heap.IsCell c (cm n)
  led : ∀ p ∈ N, Is s.heap p.1 p.2
  wd : Wd K s₀.heap

structure Own (s₀ : Shared) (env : Env) : Prop where
  lo : s₀.heap.objs.size ≤ env.locals
  apart : env.cells.Pairwise fun x y => x.2 ≠ y.2
  above : ∀ n c, (n, c) ∈ env.cells → env.locals < c
  kind : env.scope.kind = .function

theorem Keeps.refl' (s : Shared) : Keeps s s := ⟨s.heap, s.toks, rfl, fun _ _ e => e⟩
theorem Keeps.trans' {a b c : Shared} (x : Keeps a b) (y : Keeps b c) : Keeps a c := by
  obtain ⟨h, t, rfl, k⟩ := x
  obtain ⟨h', t', rfl, k'⟩ := y
  exact ⟨h', t', rfl, fun b o e => k' b o (k b o e)⟩
theorem Keeps.get {s s' : Shared} (x : Keeps s s') {b : Addr} {o : Obj} (e : s.heap.get? b = some o) : s'.heap.get? b = some o := by
  obtain ⟨h, t, rfl, k⟩ := x; exact k b o e
theorem Keeps.all {s s' : Shared} (x : Keeps s s') : ∀ b o, s.heap.get? b = some o → s'.heap.get? b = some o := fun _ _ e => Keeps.get x e
theorem Keeps.tok {s : Shared} {t : Nat} : Keeps s { s with toks := t } := ⟨s.heap, t, rfl, fun _ _ e => e⟩
theorem Keeps.push {s : Shared} {o : Obj} {t : Nat} : Keeps s { s with heap := s.heap.push o, toks := t } := ⟨_, t, rfl, fun _ _ e => Heap.get?_push_of_some _ e⟩

section
variable {K : Frag} {s₀ s s' : Shared} {env : Env} {m cm : Str → Option Value} {N : List (Addr × Kd)}

theorem In.kp (I : In K s₀ env m cm N s) (k : Keeps s s') : In K s₀ env m cm N s' :=
  ⟨Keeps.trans' I.ks k, I.ns.keeps (Keeps.all k), fun n c h => (I.cell n c h).keeps (Keeps.all k), fun p hp => (I.led p hp).keeps fun _ e => Keeps.get k e, I.wd⟩
theorem In.add (I : In K s₀ env m cm N s) {a : Addr} {k : Kd} (e : Is s.heap a k) : In K s₀ env m cm ((a, k) :: N) s :=
  ⟨I.ks, I.ns, I.cell, fun p hp => by rcases List.mem_cons.mp hp with rfl | hp; exact e; exact I.led p hp, I.wd⟩
theorem In.fewer (I : In K s₀ env m cm N s) {N' : List (Addr × Kd)} (h : ∀ p ∈ N', p ∈ N) : In K s₀ env m cm N' s := ⟨I.ks, I.ns, I.cell, fun p hp => I.led p (h p hp), I.wd⟩
theorem In.get (I : In K s₀ env m cm N s) {a : Addr} {k : Kd} (h : (a, k) ∈ N) : Is s.heap a k := I.led _ h
theorem In.old (I : In K s₀ env m cm N s) {a : Addr} {o : Obj} (h : s₀.heap.get? a = some o) : s.heap.get? a = some o := Keeps.get I.ks h
theorem In.newer (I : In K s₀ env m cm N s) {a : Addr} (h : s.heap.get? a = none) : s₀.heap.get? a = none := by
  cases e : s₀.heap.get? a with
  | none => rfl
  | some o => rw [I.old e] at h; cases h

theorem still_ne {h : Heap} {a : Addr} {k : Kd} {m : Str → Option Value} {L : Addr} (hn : h.Ns L m) (e : Is h a k) : a ≠ L := by
  rintro rfl
  obtain ⟨o, e, hs⟩ := e
  replace hs := hs.still
  obtain ⟨o', es, ep, e', hd, _⟩ := hn
  rw [e] at e'; cases e'
  simp [still, hd] at hs
theorem still_cell {h : Heap} {a c : Addr} {k : Kd} {v : Option Value} (hn : h.IsCell c v) (e : Is h a k) : a ≠ c := by
  rintro rfl
  obtain ⟨o, e, hs⟩ := e
  replace hs := hs.still
  obtain ⟨o', e', hd⟩ := hn
  rw [e] at e'; cases e'
  simp [still, hd] at hs

theorem In.setLocal {h' : Heap} {t : Nat} {m' : Str → Option Value} (O : Own s₀ env) (I : In K s₀ env m cm N s) (hn : h'.Ns env.locals m') (hs : Heap.SameBut env.locals s.heap h') :
    In K s₀ env m' cm N { s with heap := h', toks := t } := by
  have kk : ∀ b o, s₀.heap.get? b = some o → h'.get? b = some o := fun b o e => hs.extBut b o (Nat.ne_of_lt (Nat.lt_of_lt_of_le (Heap.lt_size e) O.lo)) (I.old e)
  have hL : s₀.heap.get? env.locals = none := by
    cases e : s₀.heap.get? env.locals with
    | none => rfl
    | some o => exact absurd (Heap.lt_size e) (Nat.not_lt.mpr O.lo)
  refine ⟨?_, hn, fun n c hc => (I.cell n c hc).sameBut hs (Nat.ne_of_gt (O.above n c (mem_of_lookup hc))), fun p hp => (I.led p hp).keeps fun _ e => (hs.2 p.1 ?_).trans e, I.wd⟩
  · obtain ⟨h, t', rfl, k⟩ := I.ks
    exact ⟨h', t, rfl, kk⟩
  · exact still_ne I.ns (I.led p hp)

theorem In.W (I : In K s₀ env m cm N s) : Wd K s.heap := I.wd.keeps (Keeps.all I.ks)

theorem In.setCell {h' : Heap} {x : Str} {c : Addr} {v : Value} (O : Own s₀ env) (I : In K s₀ env m cm N s) (hc : env.cells.lookup x = some c) (hn : h'.IsCell c (some v)) (hs : Heap.SameBut c s.heap h') :
    In K s₀ env m (upd cm x v) N { s with heap := h' } := by
  have hLc := O.above x c (mem_of_lookup hc)
  have kk : ∀ b o, s₀.heap.get? b = some o → h'.get? b = some o := fun b o e => hs.extBut b o (Nat.ne_of_lt (Nat.lt_trans (Nat.lt_of_lt_of_le (Heap.lt_size e) O.lo) hLc)) (I.old e)
  refine ⟨?_, I.ns.sameBut hs (Nat.ne_of_lt hLc), fun k c' hk' => ?_, fun p hp => (I.led p hp).keeps fun _ e => (hs.2 p.1 ?_).trans e, I.wd⟩
  · obtain ⟨h, t', rfl, k⟩ := I.ks
    exact ⟨h', _, rfl, kk⟩
  · by_cases hkn : k = x
    · subst hkn
      rw [hc] at hk'; cases hk'
      simpa [upd] using hn
    · simp only [upd, if_neg hkn]
      exact (I.cell k c' hk').sameBut hs fun e => hkn (name_of_addr O.apart (mem_of_lookup hk') (e ▸ mem_of_lookup hc))
  · exact still_cell (I.cell x c hc) (I.led p hp)

/-- an own object changed -/
theorem In.change {h' : Heap} {a : Addr} {k k' : Kd} (I : In K s₀ env m cm ((a, k) :: N) s) (hf : s₀.heap.get? a = none) (hN : ∀ p ∈ N, p.1 ≠ a) (hn : Is h' a k')
    (hk : ∀ b x, b ≠ a → s.heap.get? b = some x → h'.get? b = some x) (t : Nat) : In K s₀ env m cm ((a, k') :: N) { s with heap := h', toks := t } := by
  have ha := I.led (a, k) (.head _)
  refine ⟨?_, ?_, fun k c hc => ?_, fun p hp => ?_, I.wd⟩
  · obtain ⟨h, t', rfl, k⟩ := I.ks
    exact ⟨h', t, rfl, fun b x e => hk b x (fun q => by rw [q, hf] at e; cases e) (k b x e)⟩
  · obtain ⟨oL, es, ep, hL, r⟩ := I.ns
    exact ⟨oL, es, ep, hk _ _ (still_ne I.ns ha).symm hL, r⟩
  · obtain ⟨oc, e, r⟩ := I.cell k c hc
    exact ⟨oc, hk _ _ (still_cell (I.cell k c hc) ha).symm e, r⟩
  · rcases List.mem_cons.mp hp with rfl | hp
    · exact hn
    · exact (I.led p (.tail _ hp)).keeps fun o e => hk _ _ (hN p hp) e
end

/-! names -/
section
variable {K : Frag} {s₀ s : Shared} {env : Env} {m cm : Str → Option Value} {N : List (Addr × Kd)} {M : Model} {A : Around} {E : Value → Shared → Prop} {x : Str} {pos : Pos} {v : Value} {Q : Value → Shared → Prop} {R : Unit → Shared → Prop}

theorem nm (I : In K s₀ env m cm N s) (hv : m x = some v) (h : Q v s) (hk : env.scope.kind = .function := by rfl) (hl : env.kindOf x = some .local := by rfl) (hd : (x == ("__debug__" : Str)) = false := by decide) :
    wpAny M A (eval (.Name x pos) env) Q E s := wpAny_Name (wpAny_loadName_local hk hl I.ns hv h) hd
theorem nmL (I : In K s₀ env m cm N s) (hv : m x = some v) (h : Q v s) (hk : env.scope.kind = .function := by rfl) (hl : env.kindOf x = some .local := by rfl) :
    wpAny M A (loadName env x) Q E s := wpAny_loadName_local hk hl I.ns hv h
theorem nmC {c : Addr} (I : In K s₀ env m cm N s) (hv : cm x = some v) (h : Q v s) (hc : env.cells.lookup x = some c) (hk : env.scope.kind = .function := by rfl) (hl : env.kindOf x = some .cell := by rfl) (hd : (x == ("__debug__" : Str)) = false := by decide) :
    wpAny M A (eval (.Name x pos) env) Q E s := wpAny_Name (wpAny_loadName_cell hk hl hc (hv ▸ I.cell x c hc) h) hd
theorem nmK (I : In K s₀ env m cm N s) (e : nsIn K mainGlobals x = some (some v)) (h : Q v s) (hk : env.scope.kind = .function := by rfl) (hl : env.kindOf x = some .globalImplicit := by rfl) (hg : env.globals = mainGlobals := by rfl)
    (hd : (x == ("__debug__" : Str)) = false := by decide) : wpAny M A (eval (.Name x pos) env) Q E s := by
  obtain ⟨mg, mb, g, b, t⟩ := I.W.top
  exact Name_function_global hk hl (loadGlobal_global (hg ▸ g) (mg_of I.W.X g e) h) hd
theorem nmB (I : In K s₀ env m cm N s) (e : nsIn K mainGlobals x = some none) (hv : bootBuiltins x = some v) (h : Q v s) (hn : x ≠ "__name__" := by decide) (hk : env.scope.kind = .function := by rfl) (hl : env.kindOf x = some .globalImplicit := by rfl) (hg : env.globals = mainGlobals := by rfl)
    (hb : env.builtins = builtinsNs := by rfl) (hd : (x == ("__debug__" : Str)) = false := by decide) : wpAny M A (eval (.Name x pos) env) Q E s := by
  obtain ⟨mg, mb, g, b, t⟩ := I.W.top
  exact Name_function_global hk hl (loadGlobal_builtin (hg ▸ g) (mg_none_of I.W.X g e) (hb ▸ b) ((t x hn).trans hv) h) hd

theorem st (O : Own s₀ env) (I : In K s₀ env m cm N s) (h : ∀ s', In K s₀ env (upd m x v) cm N s' → R () s') (hl : env.kindOf x = some .local := by rfl) :
    wpAny M A (storeName env x v) R E s :=
  wpAny_storeName_local hl I.ns (fun h' hn hs => h _ (I.setLocal O hn hs)) (by rw [O.kind]; rfl)
theorem stC {c : Addr} (O : Own s₀ env) (I : In K s₀ env m cm N s) (h : ∀ s', In K s₀ env m (upd cm x v) N s' → R () s') (hc : env.cells.lookup x = some c) (hl : env.kindOf x = some .cell := by rfl) :
    wpAny M A (storeName env x v) R E s :=
  wpAny_storeName_cell O.kind hl hc (I.cell x c hc) fun h' hn hs => h _ (I.setCell O hc hn hs)
end


def ev (scope : Scope) (qual : Str) (cdv : Value) (f L : Addr) : Env := newEnv scope L mainGlobals (cellsFrom (L + 1) scope.names []) (qual ++ ".<locals>.") (some f) cdv none builtinsNs

def Rm (A : Around) (d : Nat) : Prop := A.depth + d < 1000 ∧ A.units + 10 * d < 9000 ∧ A.handled = none
theorem Rm.deeper {A : Around} {d : Nat} {env : Env} (h : Rm A (d + 1)) : Rm (A.deeper env) d := by
  obtain ⟨a, b, c⟩ := h
  refine ⟨?_, ?_, c⟩
  · show A.depth + 1 + d < 1000; omega
  · show A.units + 3 + 10 * d < 9000; omega
theorem Rm.in1 {A : Around} {d : Nat} (h : Rm A (d + 1)) : Rm A.in1 d := by
  obtain ⟨a, b, c⟩ := h
  refine ⟨?_, ?_, c⟩
  · show A.depth + d < 1000; omega
  · show A.units + 1 + 10 * d < 9000; omega
theorem Rm.le {A : Around} {d e : Nat} (h : Rm A d) (he : e ≤ d) : Rm A e := by
  obtain ⟨a, b, c⟩ := h
  exact ⟨by omega, by omega, c⟩
theorem Rm.room {A : Around} {d : Nat} (h : Rm A d) : A.depth < recursionLimit := by
  obtain ⟨a, b, c⟩ := h
  show A.depth < 1000; omega
theorem Rm.line {A : Around} {d : Nat} (h : Rm A d) : A.units < cLine := by
  obtain ⟨a, b, c⟩ := h
  show A.units < 9900; omega
theorem Rm.hh {A : Around} {d : Nat} (h : Rm A d) : A.handled = none := h.2.2

theorem enter {prog : Program} {w : World} {K : Frag} {A : Around} {s : Shared} {E Q : Value → Shared → Prop} {name qual : Str} {params : Arguments} {body : List Stmt} {scope : Scope} {dV kV doc pm cdv ct oc : Value} {an od : Option Addr} {osl : Array (Option Value)} {f : Addr} {args : List Value} (binds : List (Str × Value)) (m cm : Str → Option Value)
    (W : Wd K s.heap) (hroom : A.depth < recursionLimit)
    (ho : K.lookup f = some ⟨oc, od, .func (fnOf name qual params body scope dV kV doc pm an cdv ct), osl⟩) (hcd : codeIn K cdv qual = true)
    (hbind : bindArgs (fnOf name qual params body scope dV kV doc pm an cdv ct) ⟨args, []⟩ = pure binds)
    (hkind : (binds.all fun y => scope.names.lookup y.1 == some .local || scope.names.lookup y.1 == some .cell) = true)
    (hco : scope.isCoroutine = false) (hgen : scope.isGenerator = false) (hk : scope.kind = .function)
    (hm : ∀ L, bindL (ev scope qual cdv f L).kindOf binds (fun _ => none) = m) (hcm : ∀ L, bindC (ev scope qual cdv f L).kindOf binds (fun _ => none) = cm)
    (h : ∀ L s₁, Own s (ev scope qual cdv f L) → In K s (ev scope qual cdv f L) m cm [] s₁ →
      wpAny (model prog w) (A.deeper (ev scope qual cdv f L)) (execs body (ev scope qual cdv f L)) (fun fl s' => Q (match fl with | .ret v => v | _ => .none) s') (fun _ _ => False) s₁) :
    wpAny (model prog w) A (call (.ref f) args) Q E s := by
  refine wpAny_call (codeAny_call_cells (fd := fnOf name qual params body scope dV kV doc pm an cdv ct) hroom (W.X _ _ ho) rfl W.lim (codeRec_of W.X hcd) rfl hbind rfl (kindsX hkind _) (fun s₁ x => ?_) hco hgen hk)
  refine wpAny_mono (h s.heap.objs.size s₁ ⟨x.toInCall.fresh, x.apart, x.above, hk⟩ ⟨?_, hm _ ▸ x.toInCall.ns, hcm _ ▸ x.cell, (fun _ hp => nomatch hp), W⟩) (fun _ _ y => y) fun _ _ y => y.elim
  obtain ⟨h', tk, e, k⟩ := x.toInCall.done
  exact ⟨h', tk, e, k⟩

/-! values -/
/-- an object that the frame has just made -/
def New (s₀ : Shared) (N : List (Addr × Kd)) (a : Addr) : Prop := s₀.heap.get? a = none ∧ ∀ p ∈ N, p.1 ≠ a
theorem Is.tl {h : Heap} {a : Addr} {xs : List Str} (x : Is h a (.tl xs)) : ∃ l n, h.get? a = some (lstO (strValues l) n) ∧ l.map (·.1) = xs := by
  obtain ⟨o, e, l, n, rfl, r⟩ := x; exact ⟨l, n, e, r⟩
theorem Is.ob {h : Heap} {a : Addr} {o : Obj} (x : Is h a (.ob o)) : h.get? a = some o := by
  obtain ⟨o, e, rfl, _⟩ := x; exact e
theorem Is.of_tl {h : Heap} {a : Addr} {l : List (Str × Tok)} {n : Nat} {xs : List Str} (e : h.get? a = some (lstO (strValues l) n)) (hl : l.map (·.1) = xs) : Is h a (.tl xs) := ⟨_, e, l, n, rfl, hl⟩
theorem sv_length (l : List (Str × Tok)) : (strValues l).length = l.length := by simp [strValues]
theorem sv_len {l : List (Str × Tok)} {xs : List Str} (h : l.map (·.1) = xs) : (strValues l).length = xs.length := by rw [← h]; simp [strValues]
theorem sv_get {l : List (Str × Tok)} {xs : List Str} (h : l.map (·.1) = xs) {i : Nat} {x : Str} (hx : xs[i]? = some x) : ∃ t, (strValues l)[i]? = some (.str x t) := by
  subst h
  simp only [List.getElem?_map, Option.map_eq_some_iff] at hx
  obtain ⟨p, hp, rfl⟩ := hx
  exact ⟨p.2, by simp [strValues, hp]⟩
theorem sv_append (l k : List (Str × Tok)) : strValues (l ++ k) = strValues l ++ strValues k := by simp [strValues]
theorem sv_take (l : List (Str × Tok)) (n : Nat) : strValues (l.take n) = (strValues l).take n := by simp [strValues, List.map_take]
theorem sv_drop (l : List (Str × Tok)) (n : Nat) : strValues (l.drop n) = (strValues l).drop n := by simp [strValues, List.map_drop]

theorem str_beq {a b : Str} : (a.cps.toList == b.cps.toList) = decide (a = b) := by
  obtain ⟨⟨a⟩⟩ := a; obtain ⟨⟨b⟩⟩ := b
  by_cases h : a = b <;> simp [h]
def isV (y : Str) (v : Value) : Bool := match v with | .str x _ => decide (x = y) | _ => false
theorem isV_gives (x y : Str) (t u : Tok) : MeetsSeq.EqGives (.str x t) (.str y u) (isV y (.str x t)) := by
  have := SeqRoads2.EqGives.str x y t u
  rw [str_beq] at this
  exact this
theorem isV_any {y : Str} {l : List (Str × Tok)} {xs : List Str} (e : l.map (·.1) = xs) : (strValues l).toArray.any (isV y) = decide (y ∈ xs) := by
  subst e
  rw [List.any_toArray]
  induction l with
  | nil => simp [strValues]
  | cons p l ih =>
    have ih' : (strValues l).any (isV y) = decide (y ∈ l.map (·.1)) := ih
    simp only [strValues, List.map_cons, List.any_cons] at ih' ⊢
    rw [ih']
    by_cases h : p.1 = y
    · simp [isV, h]
    · have h' : ¬ y = p.1 := fun q => h q.symm
      simp [isV, h, h']

section
variable {K : Frag} {s₀ s : Shared} {env : Env} {m cm : Str → Option Value} {N : List (Addr × Kd)} {M : Model} {prog : Program} {w : World} {A : Around} {E : Value → Shared → Prop} {x : Str} {pos : Pos} {v : Value} {Q : Value → Shared → Prop} {R : Unit → Shared → Prop} {B : Bool → Shared → Prop}

theorem cI {i : Int} {k : Nat} (I : In K s₀ env m cm N s) (h : ∀ t s', In K s₀ env m cm N s' → Q (.int i t) s') : wpAny M A (eval (.Constant (.int i) k pos) env) Q E s :=
  wpAny_Constant_int (h _ _ (I.kp Keeps.tok))
theorem cS {i : Str} {k : Nat} (I : In K s₀ env m cm N s) (h : ∀ t s', In K s₀ env m cm N s' → Q (.str i t) s') : wpAny M A (eval (.Constant (.str i) k pos) env) Q E s :=
  Constant_str (h _ _ (I.kp Keeps.tok))

-- ints
section
variable {i j : Int} {t u : Tok}
theorem addI (I : In K s₀ env m cm N s) (h : ∀ t s', In K s₀ env m cm N s' → Q (.int (i + j) t) s') : wpAny (model prog w) A (binaryOp .Add (.int i t) (.int j u)) Q E s := P.add_int (h _ _ (I.kp Keeps.tok))
theorem iaddI (I : In K s₀ env m cm N s) (h : ∀ t s', In K s₀ env m cm N s' → Q (.int (i + j) t) s') : wpAny (model prog w) A (inplaceOp .Add (.int i t) (.int j u)) Q E s := P.iadd_int (h _ _ (I.kp Keeps.tok))
theorem subI (I : In K s₀ env m cm N s) (h : ∀ t s', In K s₀ env m cm N s' → Q (.int (i - j) t) s') : wpAny (model prog w) A (binaryOp .Sub (.int i t) (.int j u)) Q E s := P.sub_int (h _ _ (I.kp Keeps.tok))
theorem modI (I : In K s₀ env m cm N s) (hi : 0 ≤ i) (hj : 0 < j) (h : ∀ t s', In K s₀ env m cm N s' → Q (.int (i % j) t) s') : wpAny (model prog w) A (binaryOp .Mod (.int i t) (.int j u)) Q E s :=
  mod_int (by omega) (by rw [Int.fmod_eq_emod_of_nonneg _ (by omega)]; exact h _ _ (I.kp Keeps.tok))
theorem modJ (I : In K s₀ env m cm N s) (hj : 0 < j) (h : ∀ t s', In K s₀ env m cm N s' → Q (.int (i % j) t) s') : wpAny (model prog w) A (binaryOp .Mod (.int i t) (.int j u)) Q E s :=
  mod_int (by omega) (by rw [Int.fmod_eq_emod_of_nonneg _ (by omega)]; exact h _ _ (I.kp Keeps.tok))
theorem divI (I : In K s₀ env m cm N s) (hi : 0 ≤ i) (hi' : i < 100000) (hj : 0 < j) (hj' : j < 100000) (h : ∀ t s', In K s₀ env m cm N s' → Q (.int (i / j) t) s') : wpAny (model prog w) A (binaryOp .FloorDiv (.int i t) (.int j u)) Q E s :=
  floordiv_int (by omega) (by rw [Int.fdiv_eq_ediv_of_nonneg _ (by omega)]; exact h _ _ (I.kp Keeps.tok)) (Or.inl (PyProof.noPylong_small (by omega)))
theorem eqI (h : Q (.bool (decide (i = j))) s) : wpAny (model prog w) A (compareOp .Eq (.int i t) (.int j u)) Q E s := P.eq_int (by rw [show (i == j) = decide (i = j) from by by_cases q : i = j <;> simp [q]]; exact h)
theorem ltI (h : Q (.bool (decide (i < j))) s) : wpAny (model prog w) A (compareOp .Lt (.int i t) (.int j u)) Q E s := P.lt_int h
theorem leI (h : Q (.bool (decide (i ≤ j))) s) : wpAny (model prog w) A (compareOp .LtE (.int i t) (.int j u)) Q E s := P.le_int h
theorem gtI (h : Q (.bool (decide (j < i))) s) : wpAny (model prog w) A (compareOp .Gt (.int i t) (.int j u)) Q E s := P.gt_int h
theorem geI (h : Q (.bool (decide (j ≤ i))) s) : wpAny (model prog w) A (compareOp .GtE (.int i t) (.int j u)) Q E s := P.ge_int h
end

-- texts
section
variable {i y : Str} {t u : Tok}
theorem lenS (I : In K s₀ env m cm N s) (hb : i.length ≤ 100000) (h : ∀ t s', In K s₀ env m cm N s' → Q (.int i.length t) s') : wpAny (model prog w) A (call (.builtin "len") [.str i t]) Q E s :=
  len_str (by omega) (h _ _ (I.kp Keeps.tok))
theorem lstripS (I : In K s₀ env m cm N s) (hb : i.length ≤ 100000) (h : ∀ t s', In K s₀ env m cm N s' → Q (.str (Txt.lstripChars i y) t) s') : wpAny (model prog w) A (call (.builtin "str.lstrip") [.str i t, .str y u]) Q E s :=
  SC.lstripChars (fun _ _ => h _ _ (I.kp Keeps.tok)) (by rw [sizeLine_eq]; omega)
theorem rstripS (I : In K s₀ env m cm N s) (hb : i.length ≤ 100000) (h : ∀ t s', In K s₀ env m cm N s' → Q (.str (Txt.rstripChars i y) t) s') : wpAny (model prog w) A (call (.builtin "str.rstrip") [.str i t, .str y u]) Q E s :=
  SC.rstripChars (fun _ _ => h _ _ (I.kp Keeps.tok)) (by rw [sizeLine_eq]; omega)
theorem startsS (h : Q (.bool (Txt.startswith i y)) s) : wpAny (model prog w) A (call (.builtin "str.startswith") [.str i t, .str y u]) Q E s := SC.startswith h
theorem endsS (h : Q (.bool (Txt.endswith i y)) s) : wpAny (model prog w) A (call (.builtin "str.endswith") [.str i t, .str y u]) Q E s := SC.endswith h
theorem rfindS (I : In K s₀ env m cm N s) (h : ∀ t s', In K s₀ env m cm N s' → Q (.int (Txt.rfind i y) t) s') : wpAny (model prog w) A (call (.builtin "str.rfind") [.str i t, .str y u]) Q E s := SC.rfind (h _ _ (I.kp Keeps.tok))
theorem addS (I : In K s₀ env m cm N s) (hb : i.length + y.length ≤ 100000) (h : ∀ t s', In K s₀ env m cm N s' → Q (.str (i ++ y) t) s') : wpAny (model prog w) A (binaryOp .Add (.str i t) (.str y u)) Q E s :=
  SB.add (fun _ _ => h _ _ (I.kp Keeps.tok)) (by rw [sizeLine_eq]; omega)
theorem iaddS (I : In K s₀ env m cm N s) (hb : i.length + y.length ≤ 100000) (h : ∀ t s', In K s₀ env m cm N s' → Q (.str (i ++ y) t) s') : wpAny (model prog w) A (inplaceOp .Add (.str i t) (.str y u)) Q E s :=
  SB.iadd (fun _ _ => h _ _ (I.kp Keeps.tok)) (by rw [sizeLine_eq]; omega)
theorem eqS (h : Q (.bool (decide (i = y))) s) : wpAny (model prog w) A (compareOp .Eq (.str i t) (.str y u)) Q E s := P.eq_str (by rw [str_beq]; exact h)
theorem neS (h : Q (.bool (!decide (i = y))) s) : wpAny (model prog w) A (compareOp .NotEq (.str i t) (.str y u)) Q E s := P.ne_str (by rw [bne, str_beq]; exact h)
theorem mulS {n : Int} (I : In K s₀ env m cm N s) (hi : i.length ≤ 16) (h0 : 0 ≤ n) (hn : n ≤ 100000) (h : ∀ t s', In K s₀ env m cm N s' → Q (.str (Txt.mul i n) t) s') : wpAny (model prog w) A (binaryOp .Mult (.str i t) (.int n u)) Q E s :=
  SB.mul (mulOk_of 16 1000000 hi (by omega) (by omega) (by decide) (by decide)) fun _ _ => h _ _ (I.kp Keeps.tok)
theorem truthyS (I : In K s₀ env m cm N s) (hb : i.length ≤ 100000) (h : ∀ s', In K s₀ env m cm N s' → B (decide (i.length ≠ 0)) s') : wpAny (model prog w) A (truthy (.str i t)) B E s := by
  refine SBL.truthy (by omega) ?_
  have e : ((i.length : Int) != 0) = decide (i.length ≠ 0) := by
    by_cases q : i.length = 0
    · simp [q]
    · have : ((i.length : Int) != 0) = true := by simpa using q
      rw [this]; simp [q]
  rw [e]
  exact h _ (I.kp Keeps.tok)
theorem splitS (I : In K s₀ env m cm N s) (hy : (y.length == 0) = false) (hb : i.length ≤ 100000)
    (h : ∀ a s', New s₀ N a → In K s₀ env m cm ((a, .tl (Txt.split i y)) :: N) s' → Q (.ref a) s') :
    wpAny (model prog w) A (call (.builtin "str.split") [.str i t, .str y u]) Q E s := by
  have hsz : i.length ≤ sizeLine := by rw [sizeLine_eq]; omega
  have hsz2 : (Builtin.Str.partsBetween i (Builtin.Str.occurrences i y 0 i.length (i.length + 1)) y.length).length ≤ sizeLine := by
    rw [length_partsBetween, sizeLine_eq]
    have := StrLaws.occ_length_le i y 0 i.length (i.length + 1)
    omega
  have fin : ∀ (l : List (Str × Tok)) (k : Nat), l.map (·.1) = Txt.split i y → Q (.ref s.heap.objs.size) { s with heap := s.heap.push (lstO (strValues l) 0), toks := k } := fun l k hl =>
    h _ _ ⟨by
      cases e : s₀.heap.get? s.heap.objs.size with
      | none => rfl
      | some o => exact absurd (Heap.lt_size (I.old e)) (Nat.lt_irrefl _), fun p hp q => by
        obtain ⟨o, e, _⟩ := I.led p hp
        rw [q] at e
        exact absurd (Heap.lt_size e) (Nat.lt_irrefl _)⟩ ((I.kp Keeps.push).add (Is.of_tl (Heap.get?_push_size _ rfl) hl))
  cases h1 : (decide (i.length < y.length) || decide (Builtin.Str.strKind i < Builtin.Str.strKind y))
  · cases hf : (Builtin.Str.occurrences i y 0 i.length (i.length + 1)).isEmpty
    · refine call_meets F.slot_str_split (typeIs_str _ _ _) F.entry_str_split (F.args_str_split_2 _ _) (meets_str_split_sep i y t u h1 hy hf hsz hsz2) ?_
      show wants Q E _ { s with toks := _, heap := s.heap.push { cls := .type "list", data := .seq (strsFrom s.toks (Builtin.Str.partsBetween i (Builtin.Str.occurrences i y 0 i.length (i.length + 1)) y.length)).toArray } }
      rw [strsFrom_eq]
      exact fin _ _ ((numbered_texts _ _).trans ((if_neg (ne_true_of_eq_false h1)).trans (if_neg (ne_true_of_eq_false hf))).symm)
    · exact call_meets F.slot_str_split (typeIs_str _ _ _) F.entry_str_split (F.args_str_split_2 _ _) (meets_str_split_not_found i y t u h1 hy hf) (fin [(i, t)] _ ((if_neg (ne_true_of_eq_false h1)).trans (if_pos hf)).symm)
  · exact call_meets F.slot_str_split (typeIs_str _ _ _) F.entry_str_split (F.args_str_split_2 _ _) (meets_str_split_cannot_occur i y t u h1) (fin [(i, t)] _ (if_pos h1).symm)
end

-- lists of texts
section
variable {a b : Addr} {xs ys : List Str} {t u : Tok}
theorem In.isL (I : In K s₀ env m cm N s) (ha : (a, .tl xs) ∈ N) : ∃ l n, IsL s.heap a (strValues l).toArray n ∧ l.map (·.1) = xs := (I.get ha).tl
theorem In.fresh (I : In K s₀ env m cm N s) : s₀.heap.get? s.heap.objs.size = none := by
  cases e : s₀.heap.get? s.heap.objs.size with
  | none => rfl
  | some o => exact absurd (Heap.lt_size (I.old e)) (Nat.lt_irrefl _)
theorem In.new (I : In K s₀ env m cm N s) : New s₀ N s.heap.objs.size := ⟨I.fresh, fun p hp q => by
  obtain ⟨o, e, _⟩ := I.led p hp
  rw [q] at e
  exact absurd (Heap.lt_size e) (Nat.lt_irrefl _)⟩
theorem In.new1 (I : In K s₀ env m cm N s) : New s₀ N (s.heap.objs.size + 1) := ⟨by
  cases e : s₀.heap.get? (s.heap.objs.size + 1) with
  | none => rfl
  | some o => exact absurd (Heap.lt_size (I.old e)) (Nat.lt_asymm (Nat.lt_succ_self _)), fun p hp q => by
  obtain ⟨o, e, _⟩ := I.led p hp
  rw [q] at e
  exact absurd (Heap.lt_size e) (Nat.lt_asymm (Nat.lt_succ_self _))⟩
theorem In.pushed (I : In K s₀ env m cm N s) (l : List (Str × Tok)) (hl : l.map (·.1) = xs) (k : Nat) : In K s₀ env m cm ((s.heap.objs.size, .tl xs) :: N) { s with heap := s.heap.push (lstO (strValues l) 0), toks := k } :=
  (I.kp Keeps.push).add (Is.of_tl (Heap.get?_push_size _ rfl) hl)
theorem joinS {y : Str} (I : In K s₀ env m cm N s) (ha : (a, .tl xs) ∈ N) (hok : JoinOk y xs = true) (h : ∀ t s', In K s₀ env m cm N s' → Q (.str (Txt.join y xs) t) s') : wpAny (model prog w) A (call (.builtin "str.join") [.str y t, .ref a]) Q E s := by
  obtain ⟨l, n, hl, e⟩ := I.isL ha
  exact SC.join hl.isList e hok fun _ _ => h _ _ (I.kp Keeps.tok)
theorem lenL (I : In K s₀ env m cm N s) (ha : (a, .tl xs) ∈ N) (hb : xs.length ≤ 100000) (h : ∀ t s', In K s₀ env m cm N s' → Q (.int xs.length t) s') : wpAny (model prog w) A (call (.builtin "len") [.ref a]) Q E s := by
  obtain ⟨l, n, hl, e⟩ := I.isL ha
  have hs : (strValues l).toArray.size = xs.length := by rw [List.size_toArray]; exact sv_len e
  refine call_len_list hl.isList (by rw [hs]; omega) ?_
  rw [hs]
  exact h _ _ (I.kp Keeps.tok)
theorem itL {value slice : Expr} {k : Int} (I : In K s₀ env m cm N s) (ha : (a, .tl xs) ∈ N) (h0 : 0 ≤ k) (hb : xs.length ≤ 100000) (hx : xs[k.toNat]? = some x) (h : ∀ t, Q (.str x t) s)
    (hs : subscripted slice false (.ref a) (.int k u) = operate [.ref a, .int k u] (getItem (.ref a) (.int k u)) := by with_unfolding_all rfl) :
    wpAny (model prog w) A (subscriptTail value slice (.ref a) (.int k u)) Q E s := by
  obtain ⟨l, n, hl, e⟩ := I.isL ha
  obtain ⟨t, ht⟩ := sv_get e hx
  have hlt : k.toNat < xs.length := (List.getElem?_eq_some_iff.mp hx).1
  exact tail_any hl.isList.typeIs slot_list_getitem.lookup (wpAny_getItem_list hl.isList h0 (by omega) (by simpa using ht) (h t)) hs
theorem catL (I : In K s₀ env m cm N s) (ha : (a, .tl xs) ∈ N) (hb : (b, .tl ys) ∈ N) (hz : xs.length + ys.length ≤ 100000) (h : ∀ c s', New s₀ N c → In K s₀ env m cm ((c, .tl (xs ++ ys)) :: N) s' → Q (.ref c) s') : wpAny (model prog w) A (binaryOp .Add (.ref a) (.ref b)) Q E s := by
  obtain ⟨l, n, hl, e⟩ := I.isL ha
  obtain ⟨l', n', hl', e'⟩ := I.isL hb
  refine P.add_list hl hl' ?_ (by simp only [List.size_toArray, sizeLine_eq, sv_len e, sv_len e']; omega)
  have := h s.heap.objs.size _ I.new (I.pushed (xs := xs ++ ys) (l ++ l') (by simp [e, e']) s.toks)
  simpa [sv_append] using this
theorem inL {y : Str} (I : In K s₀ env m cm N s) (ha : (a, .tl xs) ∈ N) (h : Q (.bool (decide (y ∈ xs))) s) : wpAny (model prog w) A (compareOp .In (.str y t) (.ref a)) Q E s := by
  obtain ⟨l, n, hl, e⟩ := I.isL ha
  refine SeqRoads2.in_list (isV y) (fun v hv => ?_) hl ?_
  · obtain ⟨q, hq, rfl⟩ := List.mem_map.mp (List.mem_toArray.mp hv)
    exact isV_gives _ _ _ _
  · rw [isV_any e]; exact h
theorem ninL {y : Str} (I : In K s₀ env m cm N s) (ha : (a, .tl xs) ∈ N) (h : Q (.bool (!decide (y ∈ xs))) s) : wpAny (model prog w) A (compareOp .NotIn (.str y t) (.ref a)) Q E s := by
  obtain ⟨l, n, hl, e⟩ := I.isL ha
  refine SeqRoads2.notIn_list (isV y) (fun v hv => ?_) hl ?_
  · obtain ⟨q, hq, rfl⟩ := List.mem_map.mp (List.mem_toArray.mp hv)
    exact isV_gives _ _ _ _
  · rw [isV_any e]; exact h

/-- what a slice gives -/
def sl {α : Type} (xs : List α) (lo hi : Option Int) : List α := (xs.drop (lo.elim 0 (clipAt xs.length))).take (hi.elim xs.length (clipAt xs.length) - lo.elim 0 (clipAt xs.length))
end
end

section
variable {K : Frag} {s₀ s : Shared} {env : Env} {m cm : Str → Option Value} {N : List (Addr × Kd)} {M : Model} {prog : Program} {w : World} {A : Around} {E : Value → Shared → Prop} {pos : Pos} {Q : Value → Shared → Prop}
theorem callK {f : Addr} {e : Expr} {rest : List Expr} {first : List Value} (I : In K s₀ env m cm N s) (hk : keepIn K (.ref f) = true)
    (h : wpAny M A (spliced (backTo pos (starEach (e :: rest) env))) (fun vs s₁ => K.In s₁.heap ∧ wpAny M A (call (.ref f) (first ++ vs)) Q E s₁) E s)
    (he : starEach (e :: rest) env = (false, eval e env) :: starEach rest env := by rfl) (hplain : (backTo pos (starEach rest env)).any (·.1) = false := by rfl) :
    wpAny M A (callWith pos (.ref f) first (backTo pos (starEach (e :: rest) env)) []) Q E s := callWith_K I.W.X hk h he hplain
end

/-- what a def does: from a heap with `pre`, all kept, it hands back what `post` says -/
def Does (w : World) (d : Nat) (f : Addr) (args : List Value) (pre : Shared → Prop) (post : Shared → Value → Shared → Prop) : Prop :=
  ∀ (A : Around) (s : Shared) (E Q : Value → Shared → Prop), Wd (hd.heap_39 w.params) s.heap → Rm A d → pre s → (∀ v s', Keeps s s' → post s v s' → Q v s') →
    wpAny (model PySem.Challenge.rw_pd0072_01.row.prog w) A (call (.ref f) args) Q E s

theorem Does.use {w : World} {d e : Nat} {f : Addr} {args : List Value} {pre : Shared → Prop} {post : Shared → Value → Shared → Prop} (D : Does w d f args pre post)
    {s₀ s : Shared} {env : Env} {m cm : Str → Option Value} {N : List (Addr × Kd)} {A : Around} {E Q : Value → Shared → Prop} (I : In (hd.heap_39 w.params) s₀ env m cm N s) (r : Rm A e) (he : d ≤ e) (hp : pre s)
    (h : ∀ v s', In (hd.heap_39 w.params) s₀ env m cm N s' → post s v s' → Q v s') : (hd.heap_39 w.params).In s.heap ∧ wpAny (model PySem.Challenge.rw_pd0072_01.row.prog w) A (call (.ref f) ([] ++ args)) Q E s :=
  ⟨I.W.X, D A s E Q I.W (r.le he) hp fun v s' k hv => h v s' (I.kp k) hv⟩

section
variable {K : Frag} {s₀ s : Shared} {env : Env} {m cm : Str → Option Value} {N : List (Addr × Kd)} {M : Model} {prog : Program} {w : World} {A : Around} {E : Value → Shared → Prop} {pos : Pos} {Q : Value → Shared → Prop}
theorem newL {vs : List Value} {l : List (Str × Tok)} (I : In K s₀ env m cm N s) (e : vs = strValues l)
    (h : ∀ a s', New s₀ N a → In K s₀ env m cm ((a, .tl (l.map (·.1))) :: N) s' → Q (.ref a) s') (hz : vs.length ≤ 100000 := by simp) : wpAny M A (newList vs) Q E s := by
  subst e
  exact wpAny_newObj_type (h _ _ I.new (I.pushed l rfl s.toks)) (by show (strValues l).toArray.size ≤ sizeLine; rw [List.size_toArray, sizeLine_eq]; omega)
theorem newO {vs : List Value} (I : In K s₀ env m cm N s) (hz : vs.length ≤ 100000)
    (h : ∀ a s', New s₀ N a → In K s₀ env m cm ((a, .ob (lstO vs 0)) :: N) s' → Q (.ref a) s') : wpAny M A (newList vs) Q E s :=
  wpAny_newObj_type (h _ _ I.new ((I.kp Keeps.push).add ⟨_, Heap.get?_push_size _ rfl, rfl, rfl⟩)) (by show vs.toArray.size ≤ sizeLine; rw [List.size_toArray, sizeLine_eq]; omega)
theorem newT {vs : List Value} (I : In K s₀ env m cm N s) (hz : vs.length ≤ 100000)
    (h : ∀ a s', New s₀ N a → In K s₀ env m cm ((a, .ob (tupO vs)) :: N) s' → Q (.ref a) s') : wpAny M A (newTuple vs) Q E s :=
  wpAny_newObj_type (h _ _ I.new ((I.kp Keeps.push).add ⟨_, Heap.get?_push_size _ rfl, rfl, rfl⟩)) (by show vs.toArray.size ≤ sizeLine; rw [List.size_toArray, sizeLine_eq]; omega)
end

/-! slices -/
abbrev slcO (l u : Value) : Obj := { cls := .type "slice", data := .fields #[l, u, .none] }
def SliceEnd (l u : Value) (Q : Value → Shared → Prop) (s : Shared) : Prop := ∀ a s', Keeps s s' → s'.heap.get? a = some (slcO l u) → Q (.ref a) s'
section
variable {K : Frag} {s₀ s : Shared} {env : Env} {m cm : Str → Option Value} {N : List (Addr × Kd)} {M : Model} {prog : Program} {w : World} {A : Around} {E : Value → Shared → Prop} {pos : Pos} {Q : Value → Shared → Prop} {l u : Value} {value slice : Expr}
theorem evSlice {lower upper : Option Expr} {p : Pos} (h : wpAny M A (evalPart lower env) (fun l s₁ => wpAny M A (evalPart upper env) (fun u s₂ => SliceEnd l u Q s₂) E s₁) E s) : wpAny M A (eval (.Slice lower upper none p) env) Q E s :=
  wpAny_Slice (wpAny_mono h (fun l s₁ h₁ => wpAny_mono h₁ (fun u s₂ h₂ => evalPart_none_step (h₂ _ _ Keeps.push (Heap.get?_push_size _ rfl))) fun _ _ e => e) fun _ _ e => e)
theorem SliceEnd.mk (I : In K s₀ env m cm N s) (h : ∀ a s', In K s₀ env m cm ((a, .ob (slcO l u)) :: N) s' → Q (.ref a) s') : SliceEnd l u Q s :=
  fun a s' k e => h a s' ((I.kp k).add ⟨_, e, rfl, rfl⟩)
theorem slT {a c : Addr} {xs : List Str} {lo hi : Option Int} (I : In K s₀ env m cm N s) (hc : (c, .ob (slcO l u)) ∈ N) (ha : (a, .tl xs) ∈ N) (pl : IsPart l lo) (pu : IsPart u hi) (hb : xs.length ≤ 100000)
    (h : ∀ b s', New s₀ N b → In K s₀ env m cm ((b, .tl (sl xs lo hi)) :: N) s' → Q (.ref b) s')
    (hs : subscripted slice false (.ref a) (.ref c) = operate [.ref c, .ref a] (getItem (.ref a) (.ref c)) := by with_unfolding_all rfl) :
    wpAny (model prog w) A (subscriptTail value slice (.ref a) (.ref c)) Q E s := by
  obtain ⟨l', n, hl, e⟩ := I.isL ha
  have hsl := (I.get hc).ob
  refine tail_any hl.isList.typeIs slot_list_getitem.lookup (wpAny_getItem_list_slice hl.isList ⟨_, hsl, rfl, rfl⟩ pl pu .none (by simp) ?_ (by simp only [List.size_toArray, sizeLine_eq, sv_len e]; omega)) hs
  have := h _ _ I.new (I.pushed (xs := sl xs lo hi) ((l'.drop (lo.elim 0 (clipAt xs.length))).take (hi.elim xs.length (clipAt xs.length) - lo.elim 0 (clipAt xs.length))) (by simp [sl, ← e, List.map_take, List.map_drop]) s.toks)
  rw [slicePick_plain]
  simpa [sv_take, sv_drop, sv_len e] using this
theorem slS {c : Addr} {x : Str} {t : Tok} {lo hi : Option (Int × Tok)} (I : In K s₀ env m cm N s) (hc : (c, .ob (slcO (partValue lo) (partValue hi))) ∈ N) (hb : x.length ≤ 100000)
    (h : ∀ t s', In K s₀ env m cm N s' → Q (.str (Txt.slice x (lo.map (·.1)) (hi.map (·.1))) t) s')
    (hs : subscripted slice false (.str x t) (.ref c) = operate [.ref c, .str x t] (getItem (.str x t) (.ref c)) := by with_unfolding_all rfl) :
    wpAny (model prog w) A (subscriptTail value slice (.str x t) (.ref c)) Q E s := by
  have hsl := (I.get hc).ob
  refine tail_any (typeIs_str _ _ _) F.slot_str_getitem.lookup (wpAny_getItem_str_slice (l := lo) (u := hi) (st := none) ⟨_, hsl, rfl, rfl⟩ rfl ?_) hs
  exact post_val_or_str ⟨Nat.le_trans (Txt.slice_le x _ _) (by rw [sizeLine_eq]; omega), fun t' k => h _ _ (I.kp Keeps.tok)⟩
end

/-! two targets at once -/
theorem Keeps.ext {s : Shared} {h' : Heap} (k : Heap.ExtBut s.heap.objs.size s.heap h') : Keeps s { s with heap := h' } := ⟨h', s.toks, rfl, fun b o e => k b o (Nat.ne_of_lt (Heap.lt_size e)) e⟩
section
variable {K : Frag} {s₀ s : Shared} {env : Env} {m cm : Str → Option Value} {N : List (Addr × Kd)} {M : Model} {prog : Program} {w : World} {A : Around} {E : Value → Shared → Prop} {R : Unit → Shared → Prop} {a : Addr} {v₁ v₂ : Value} {x y : Str}
theorem Is.tup {h : Heap} {a : Addr} {vs : List Value} (x : Is h a (.ob (tupO vs))) : IsTup h a vs.toArray := ⟨_, x.ob, rfl, _, rfl⟩
theorem asg2 {p₁ p₂ tp : Pos} {k : Nat} (O : Own s₀ env) (I : In K s₀ env m cm N s) (hh : A.handled = none) (ha : (a, .ob (tupO [v₁, v₂])) ∈ N)
    (h : ∀ s', In K s₀ env (upd (upd m x v₁) y v₂) cm N s' → R () s') (hx : env.kindOf x = some .local := by rfl) (hy : env.kindOf y = some .local := by rfl) :
    wpAny (model prog w) A (assign (.Tuple [.Name x p₁, .Name y p₂] k tp) env (.ref a)) R E s := by
  show wpAny _ _ (do standAt tp; unpack (.ref a) (assignEach [.Name x p₁, .Name y p₂] env)) R E s
  refine wpAny_bind (wpAny_standAt (unpack_tuple hh (I.get ha).tup rfl rfl fun h' he => ?_))
  have I' := I.kp (Keeps.ext he)
  refine assignInOrder_cons (wpAny_assign_Name (st O I' (fun s₂ I₂ => ?_) hx))
  refine assignInOrder_cons (wpAny_assign_Name (st O I₂ (fun s₃ I₃ => ?_) hy))
  exact assignInOrder_nil (h _ I₃)
theorem asg2s (O : Own s₀ env) (I : In K s₀ env m cm N s) (hh : A.handled = none) (ha : (a, .ob (tupO [v₁, v₂])) ∈ N)
    (h : ∀ s', In K s₀ env (upd (upd m y v₂) x v₁) cm N s' → R () s') (hx : env.kindOf x = some .local := by rfl) (hy : env.kindOf y = some .local := by rfl) :
    wpAny (model prog w) A (unpackItems (.ref a) [x, y].length none) (fun items s₂ => wpAny (model prog w) A (assignInOrder ([x, y].reverse.map fun n => bindName env n) items.reverse) R E s₂) E s := by
  have T := (I.get ha).tup
  show wpAny (model prog w) A (unpackItems (.ref a) [v₁, v₂].toArray.size none) _ E s
  refine unpackItems_tuple hh T fun h' he => ?_
  have I' := I.kp (Keeps.ext he)
  show wpAny (model prog w) A (assignInOrder [fun v => bindName env y v, fun v => bindName env x v] [v₂, v₁]) R E _
  refine assignInOrder_cons (wpAny_bindName (st O I' (fun s₂ I₂ => ?_) hy))
  refine assignInOrder_cons (wpAny_bindName (st O I₂ (fun s₃ I₃ => ?_) hx))
  exact assignInOrder_nil (h _ I₃)
end

section
variable {K : Frag} {s₀ s : Shared} {env : Env} {m cm : Str → Option Value} {N : List (Addr × Kd)} {prog : Program} {w : World} {A : Around} {E : Value → Shared → Prop} {Q : Value → Shared → Prop} {value slice : Expr} {c : Addr} {x : Str} {t u : Tok} {i : Int}
theorem slFrom (I : In K s₀ env m cm N s) (hc : (c, .ob (slcO (.int i u) .none)) ∈ N) (hb : x.length ≤ 100000) (h : ∀ t s', In K s₀ env m cm N s' → Q (.str (Txt.slice x (some i) none) t) s')
    (hs : subscripted slice false (.str x t) (.ref c) = operate [.ref c, .str x t] (getItem (.str x t) (.ref c)) := by with_unfolding_all rfl) :
    wpAny (model prog w) A (subscriptTail value slice (.str x t) (.ref c)) Q E s := slS (lo := some (i, u)) (hi := none) I hc hb h hs
theorem slTo (I : In K s₀ env m cm N s) (hc : (c, .ob (slcO .none (.int i u))) ∈ N) (hb : x.length ≤ 100000) (h : ∀ t s', In K s₀ env m cm N s' → Q (.str (Txt.slice x none (some i)) t) s')
    (hs : subscripted slice false (.str x t) (.ref c) = operate [.ref c, .str x t] (getItem (.str x t) (.ref c)) := by with_unfolding_all rfl) :
    wpAny (model prog w) A (subscriptTail value slice (.str x t) (.ref c)) Q E s := slS (lo := none) (hi := some (i, u)) I hc hb h hs
end

/-! append, items set -/
theorem In.change' {K : Frag} {s₀ s : Shared} {env : Env} {m cm : Str → Option Value} {N N' : List (Addr × Kd)} {h' : Heap} {a : Addr} {k k' : Kd} (I : In K s₀ env m cm N s) (ha : (a, k) ∈ N) (hf : s₀.heap.get? a = none) (hn : Is h' a k')
    (hk : ∀ b x, b ≠ a → s.heap.get? b = some x → h'.get? b = some x) (t : Nat) (hN : ∀ p ∈ N', p = (a, k') ∨ (p ∈ N ∧ p.1 ≠ a)) : In K s₀ env m cm N' { s with heap := h', toks := t } := by
  have I' : In K s₀ env m cm ((a, k) :: N.filter (fun p => decide (p.1 ≠ a))) s := I.fewer fun p hp => by
    rcases List.mem_cons.mp hp with rfl | hp
    · exact ha
    · exact (List.mem_filter.mp hp).1
  have I₂ := I'.change hf (fun p hp => by simpa using (List.mem_filter.mp hp).2) hn hk t
  exact I₂.fewer fun p hp => by
    rcases hN p hp with rfl | ⟨h1, h2⟩
    · exact .head _
    · exact .tail _ (List.mem_filter.mpr ⟨h1, by simpa using h2⟩)
section
variable {K : Frag} {s₀ s : Shared} {env : Env} {m cm : Str → Option Value} {N : List (Addr × Kd)} {M : Model} {prog : Program} {w : World} {A : Around} {E : Value → Shared → Prop} {Q : Value → Shared → Prop} {a : Addr} {xs : List Str} {x : Str} {t : Tok}
theorem getAppend {pl : Sem Bool} {Q : Value × List Value → Shared → Prop} (I : In K s₀ env m cm N s) (ha : (a, .tl xs) ∈ N) (h : Q (.builtin "list.append", [.ref a]) s) : wpAny M A (getMethod (.ref a) "append" pl) Q E s := by
  obtain ⟨l, n, hl, e⟩ := I.isL ha
  exact getMethod_list_append hl rfl rfl h
theorem appendL {N' : List (Addr × Kd)} (I : In K s₀ env m cm N s) (ha : (a, .tl xs) ∈ N) (hf : s₀.heap.get? a = none) (hb : xs.length ≤ 100000) (hN : ∀ p ∈ N', p = (a, .tl (xs ++ [x])) ∨ (p ∈ N ∧ p.1 ≠ a))
    (h : ∀ s', In K s₀ env m cm N' s' → Q .none s') : wpAny (model prog w) A (call (.builtin "list.append") [.ref a, .str x t]) Q E s := by
  obtain ⟨l, n, hl, e⟩ := I.isL ha
  refine call_meets F.slot_list_append ⟨_, hl, rfl⟩ F.entry_list_append (F.args_list_append_2 _ _) (list_append a (strValues l).toArray n (.str x t) (by simp only [List.size_toArray, sizeLine_eq, sv_len e]; omega)) ⟨hl, ?_⟩
  have hu := hl.update (fun z => z.push (.str x t))
  refine h _ (I.change' (k' := .tl (xs ++ [x])) ha hf (Is.of_tl (l := l ++ [(x, t)]) (n := n + 1) ?_ (by simp [e])) (fun b o hb e => (Heap.get?_update_ne _ _ _ _ hb).trans e) _ hN)
  simpa [strValues] using hu
end

section
variable {K : Frag} {s₀ s : Shared} {env : Env} {m cm : Str → Option Value} {N : List (Addr × Kd)} {prog : Program} {w : World} {A : Around} {E : Value → Shared → Prop} {a : Addr} {xs : List Str} {x : Str} {t u : Tok}
theorem In.wide (I : In K s₀ env m cm ((a, .tl xs) :: N) s) : In K s₀ env m cm ((a, .tw xs) :: N) s :=
  (I.fewer (N' := N) fun p hp => .tail _ hp).add (by obtain ⟨l, n, e, r⟩ := (I.get (.head _)).tl; exact ⟨_, e, rfl, l, n, rfl, r⟩)
theorem Is.tw {h : Heap} (x : Is h a (.tw xs)) : ∃ l, h.IsList a (strValues l).toArray ∧ l.map (·.1) = xs := by
  obtain ⟨o, e, hc, l, n, hd, r⟩ := x; exact ⟨l, ⟨o, e, hc, n, hd⟩, r⟩
theorem joinW {y : Str} {Q : Value → Shared → Prop} (I : In K s₀ env m cm N s) (ha : (a, .tw xs) ∈ N) (hok : JoinOk y xs = true) (h : ∀ t s', In K s₀ env m cm N s' → Q (.str (Txt.join y xs) t) s') : wpAny (model prog w) A (call (.builtin "str.join") [.str y t, .ref a]) Q E s := by
  obtain ⟨l, hl, e⟩ := (I.get ha).tw
  exact SC.join hl e hok fun _ _ => h _ _ (I.kp Keeps.tok)
theorem setL {N' : List (Addr × Kd)} {j : Nat} {R : Unit → Shared → Prop} (I : In K s₀ env m cm N s) (ha : (a, .tw xs) ∈ N) (hf : s₀.heap.get? a = none) (hb : xs.length ≤ 100000) (hj : j < xs.length)
    (hN : ∀ p ∈ N', p = (a, .tw (xs.set j x)) ∨ (p ∈ N ∧ p.1 ≠ a)) (h : ∀ s', In K s₀ env m cm N' s' → R () s') : wpAny (model prog w) A (setItem (.ref a) (.int j u) (.str x t)) R E s := by
  obtain ⟨l, hl, e⟩ := (I.get ha).tw
  refine wpAny_setItem_list hl (by omega) (by omega) (by rw [List.size_toArray, sv_len e]; omega) fun h' hl' hs' => ?_
  refine h _ (I.change' (t := s.toks) (k' := .tw (xs.set j x)) ha hf ?_ (fun b o hb e => (hs'.2 b hb).trans e) hN)
  obtain ⟨o, ho, hc, n, hd⟩ := hl'
  refine ⟨o, ho, hc, l.set j (x, t), n, ?_, ?_⟩
  · rw [hd]; simp [strValues, List.map_set]
  · rw [← e]; simp [List.map_set]
end

/-! cuts: one road behind several ways -/
section
variable {K : Frag} {s₀ s : Shared} {env : Env} {m cm : Str → Option Value} {N : List (Addr × Kd)} {M : Model} {A : Around} {E : Value → Shared → Prop}
theorem cutI {i : Int} {tree : Sem Value} {Q : Value → Shared → Prop} (h1 : wpAny M A tree (fun v s' => ∃ t, v = .int i t ∧ In K s₀ env m cm N s') E s) (h2 : ∀ t s', In K s₀ env m cm N s' → Q (.int i t) s') : wpAny M A tree Q E s :=
  wpAny_mono h1 (fun _ _ ⟨t, e, I⟩ => e ▸ h2 t _ I) fun _ _ e => e
theorem cutF {P : Shared → Prop} {tree : Sem Flow} {Q : Flow → Shared → Prop} (h1 : wpAny M A tree (fun f s' => match f with | .next => P s' | f => Q f s') E s) (h2 : ∀ s', P s' → Q .next s') : wpAny M A tree Q E s :=
  wpAny_mono h1 (fun f s' h => by cases f <;> first | exact h2 _ h | exact h) fun _ _ e => e
end

/-! loops -/
def Kd.isL : Kd → Bool | .tl _ => true | .tw _ => true | .il _ => true | .ob _ => false
def Kd.len : Kd → Nat | .tl xs => xs.length | .tw xs => xs.length | .il ns => ns.length | .ob _ => 0
def Kd.At : Kd → Nat → Value → Prop
  | .tl xs, i, v => ∃ x t, xs[i]? = some x ∧ v = .str x t
  | .tw xs, i, v => ∃ x t, xs[i]? = some x ∧ v = .str x t
  | .il ns, i, v => ∃ n t, ns[i]? = some n ∧ v = .int n t
  | .ob _, _, _ => False
theorem Is.lst {h : Heap} {a : Addr} {k : Kd} (hk : k.isL = true) (x : Is h a k) : ∃ vs : List Value, h.IsList a vs.toArray ∧ vs.length = k.len ∧ ∀ i v, vs[i]? = some v → k.At i v := by
  cases k with
  | tl xs =>
    obtain ⟨o, e, l, n, rfl, r⟩ := x
    refine ⟨strValues l, ⟨_, e, rfl, n, rfl⟩, sv_len r, fun i v hv => ?_⟩
    simp only [strValues, List.getElem?_map, Option.map_eq_some_iff] at hv
    obtain ⟨p, hp, rfl⟩ := hv
    exact ⟨p.1, p.2, by rw [← r]; simp [hp], rfl⟩
  | tw xs =>
    obtain ⟨o, e, hc, l, n, hd, r⟩ := x
    refine ⟨strValues l, ⟨o, e, hc, n, hd⟩, sv_len r, fun i v hv => ?_⟩
    simp only [strValues, List.getElem?_map, Option.map_eq_some_iff] at hv
    obtain ⟨p, hp, rfl⟩ := hv
    exact ⟨p.1, p.2, by rw [← r]; simp [hp], rfl⟩
  | il ns =>
    obtain ⟨o, e, l, n, rfl, r⟩ := x
    refine ⟨_, ⟨_, e, rfl, n, rfl⟩, by simp [Kd.len, ← r], fun i v hv => ?_⟩
    simp only [List.getElem?_map, Option.map_eq_some_iff] at hv
    obtain ⟨p, hp, rfl⟩ := hv
    exact ⟨p.1, p.2, by rw [← r]; simp [hp], rfl⟩
  | ob o => cases hk
theorem Is.lst_ne {h : Heap} {a b : Addr} {k : Kd} {o : Obj} (hk : k.isL = true) (x : Is h a k) (e : h.get? b = some o) (hc : o.cls ≠ .type "list") : a ≠ b := by
  rintro rfl
  obtain ⟨vs, ⟨o', e', hc', _⟩, _⟩ := x.lst hk
  rw [e] at e'
  injection e' with e'
  exact hc (e' ▸ hc')

section
variable {K : Frag} {s₀ s : Shared} {env : Env} {m cm : Str → Option Value} {N : List (Addr × Kd)} {prog : Program} {w : World} {A : Around}

/-- objects of the frame's own that no fact names may change -/
theorem In.but {h' : Heap} {t : Nat} {wr : List Addr} (I : In K s₀ env m cm N s) (hf : ∀ b ∈ wr, s₀.heap.get? b = none) (ho : ∀ b ∈ wr, ∃ o, s.heap.get? b = some o ∧ still o = true) (hN : ∀ p ∈ N, p.1 ∉ wr)
    (hk : ∀ b o, b ∉ wr → s.heap.get? b = some o → h'.get? b = some o) : In K s₀ env m cm N { s with heap := h', toks := t } := by
  refine ⟨?_, ?_, fun n c hc => ?_, fun p hp => (I.led p hp).keeps fun o e => hk _ _ (hN p hp) e, I.wd⟩
  · obtain ⟨h, t', rfl, k⟩ := I.ks
    exact ⟨h', t, rfl, fun b x e => hk b x (fun q => by rw [hf b q] at e; cases e) (k b x e)⟩
  · obtain ⟨oL, es, ep, hL, r⟩ := id I.ns
    refine ⟨oL, es, ep, hk _ _ (fun q => ?_) hL, r⟩
    obtain ⟨o, e, hs⟩ := ho _ q
    exact still_ne I.ns ⟨o, e, (show Shape o (.ob o) from ⟨rfl, hs⟩)⟩ rfl
  · obtain ⟨oc, e, r⟩ := id (I.cell n c hc)
    refine ⟨oc, hk _ _ (fun q => ?_) e, r⟩
    obtain ⟨o, e', hs⟩ := ho _ q
    exact still_cell (I.cell n c hc) ⟨o, e', (show Shape o (.ob o) from ⟨rfl, hs⟩)⟩ rfl

theorem In.app (I : In K s₀ env m cm N s) {L : List (Addr × Kd)} (h : ∀ p ∈ L, Is s.heap p.1 p.2) : In K s₀ env m cm (N ++ L) s :=
  ⟨I.ks, I.ns, I.cell, fun p hp => (List.mem_append.mp hp).elim (I.led p) (h p), I.wd⟩

theorem elim_noted {M : Model} {env : Env} {E' E : Value → Shared → Prop} {e : Value} {s : Shared} (h : False) : E' e s := h.elim

/-- what a turn must leave -/
def TurnEnd (K : Frag) (s₀ : Shared) (env : Env) (J : (Str → Option Value) → (Str → Option Value) → List (Addr × Kd) → Prop) (L : List (Addr × Kd)) (Q : Flow → Shared → Prop) (f : Flow) (s : Shared) : Prop := match f with
  | .brk => Q .next s
  | .ret v => Q (.ret v) s
  | _ => ∃ m cm N, J m cm N ∧ In K s₀ env m cm (N ++ L) s

theorem TurnEnd.go {J : (Str → Option Value) → (Str → Option Value) → List (Addr × Kd) → Prop} {L : List (Addr × Kd)} {Q : Flow → Shared → Prop} (I : In K s₀ env m cm (N ++ L) s) (h : J m cm N) : TurnEnd K s₀ env J L Q .next s := ⟨m, cm, N, h, I⟩
theorem TurnEnd.brk {J : (Str → Option Value) → (Str → Option Value) → List (Addr × Kd) → Prop} {L : List (Addr × Kd)} {Q : Flow → Shared → Prop} (h : Q .next s) : TurnEnd K s₀ env J L Q .brk s := h
theorem TurnEnd.ret {J : (Str → Option Value) → (Str → Option Value) → List (Addr × Kd) → Prop} {L : List (Addr × Kd)} {Q : Flow → Shared → Prop} {v : Value} (h : Q (.ret v) s) : TurnEnd K s₀ env J L Q (.ret v) s := h
theorem for_lst {k : Kd} {a : Addr} {y : Str} {py : Pos} {body : List Stmt} {Q : Flow → Shared → Prop} (J : Nat → (Str → Option Value) → (Str → Option Value) → List (Addr × Kd) → Prop)
    (O : Own s₀ env) (hh : A.handled = none) (I : In K s₀ env m cm N s) (hk : k.isL = true) (h0 : J 0 m cm N) (hJ : ∀ i m cm N, J i m cm N → (a, k) ∈ N ∧ ∀ p ∈ N, p.2.isL = true) (hy : env.kindOf y = some .local)
    (turn : ∀ i v m' cm' N' L s', k.At i v → J i m' cm' N' → (∀ p ∈ L, ∀ q ∈ N', p.1 ≠ q.1) → In K s₀ env (upd m' y v) cm' (N' ++ L) s' →
      wpAny (model prog w) A (execs body env) (TurnEnd K s₀ env (J (i + 1)) L Q) (fun _ _ => False) s')
    (done : ∀ m' cm' N' s', J k.len m' cm' N' → In K s₀ env m' cm' N' s' → Q .next s') :
    wpAny (model prog w) A (pyIter (.ref a)) (fun it s₂ => codeAny (model prog w) A (.forLoop (.Name y py) it body [] env) (fun r s' => match r with | .ok f => Q f s' | .error e => cameBackBy (model prog w) A env (fun _ _ => False) e s') s₂) (fun _ _ => False) s := by
  obtain ⟨vs, hl, hlen, hat⟩ := (I.get (hJ _ _ _ _ h0).1).lst hk
  refine wpAny_pyIter_list hl ?_
  have hfr := I.fresh
  generalize hit : s.heap.objs.size = it at hfr ⊢
  have hI' : ({ s with heap := s.heap.push { cls := .type "list_iterator", data := .fields #[.ref a, .int 0 0] } } : Shared).heap.IsListIter it a 0 := ⟨_, hit ▸ Heap.get?_push_size _ rfl, rfl, rfl⟩
  have I' := I.kp (s' := { s with heap := s.heap.push { cls := .type "list_iterator", data := .fields #[.ref a, .int 0 0] } }) Keeps.push
  generalize ({ s with heap := s.heap.push { cls := .type "list_iterator", data := .fields #[.ref a, .int 0 0] } } : Shared) = s₁ at hI' I' ⊢
  refine codeAny_forLoop_any (fun j s' => ∃ i m' cm' N', j = k.len + 1 - i ∧ i ≤ k.len ∧ J i m' cm' N' ∧ In K s₀ env m' cm' N' s' ∧ s'.heap.IsListIter it a i) ?_ (k.len + 1) ⟨0, m, cm, N, rfl, Nat.zero_le _, h0, I', hI'⟩
  rintro j s' ⟨i, m', cm', N', rfl, hi, hJi, Ii, hIt⟩
  obtain ⟨hmem, hNL⟩ := hJ _ _ _ _ hJi
  obtain ⟨vs, hL, hlen, hat⟩ := (Ii.get hmem).lst hk
  obtain ⟨oi, hoi, hci, hdi⟩ := id hIt
  have hst : ∀ b ∈ [it], ∃ o, s'.heap.get? b = some o ∧ still o = true := fun b hb => by rw [List.mem_singleton.mp hb]; exact ⟨oi, hoi, by simp [still, hdi]⟩
  have hoff : ∀ p ∈ N', p.1 ∉ [it] := fun p hp q => Is.lst_ne (hNL p hp) (Ii.led p hp) hoi (by rw [hci]; decide) (List.mem_singleton.mp q)
  have hfr' : ∀ b ∈ [it], s₀.heap.get? b = none := fun b hb => by rw [List.mem_singleton.mp hb]; exact hfr
  cases hv : vs[i]? with
  | none =>
    have hsz : i = k.len := by have := List.getElem?_eq_none_iff.mp hv; omega
    refine wpAny_pyNext_list_end hh hIt hL (by simpa using hv) fun h₁ he₁ => wpAny_execs_nil ?_
    have I₁ := Ii.but (t := s'.toks) hfr' hst hoff (h' := h₁) fun b o hb e => he₁ b o (fun q => hb (List.mem_singleton.mpr q)) e
    exact done _ _ _ _ (hsz ▸ hJi) I₁
  | some v =>
    have hlt : i < k.len := by have := (List.getElem?_eq_some_iff.mp hv).1; omega
    refine wpAny_pyNext_list_item hIt hL (by simpa using hv) fun h₁ hIt₁ hs₁ => ?_
    have I₁ := Ii.but (t := s'.toks) hfr' hst hoff (h' := h₁) fun b o hb e => (hs₁.2 b (fun q => hb (List.mem_singleton.mpr q))).trans e
    obtain ⟨o₁, ho₁, hc₁, hd₁⟩ := id hIt₁
    have hst₁ : still o₁ = true := by simp [still, hd₁]
    have I₂ := I₁.app (L := [(it, .ob o₁)]) fun p hp => by rw [List.mem_singleton.mp hp]; exact ⟨o₁, ho₁, rfl, hst₁⟩
    refine wpAny_pure (wpAny_assign_Name (st O I₂ (fun s₂ I₃ => ?_) hy))
    refine wpAny_mono (turn i v m' cm' N' [(it, .ob o₁)] s₂ (hat i v hv) hJi (fun p hp q hq e => hoff q hq (by rw [← e, List.mem_singleton.mp hp]; exact .head _)) I₃) (fun f s₃ hf => ?_) fun _ _ h => h.elim
    cases f with
    | brk => exact hf
    | ret v => exact hf
    | next =>
      obtain ⟨m₄, cm₄, N₄, hJ₄, I₄⟩ := hf
      exact ⟨k.len + 1 - (i + 1), by omega, i + 1, m₄, cm₄, N₄, rfl, hlt, hJ₄, I₄.fewer fun p hp => List.mem_append.mpr (.inl hp), ⟨o₁, (I₄.led (it, .ob o₁) (List.mem_append.mpr (.inr (.head _)))).ob, hc₁, hd₁⟩⟩
    | cont =>
      obtain ⟨m₄, cm₄, N₄, hJ₄, I₄⟩ := hf
      exact ⟨k.len + 1 - (i + 1), by omega, i + 1, m₄, cm₄, N₄, rfl, hlt, hJ₄, I₄.fewer fun p hp => List.mem_append.mpr (.inl hp), ⟨o₁, (I₄.led (it, .ob o₁) (List.mem_append.mpr (.inr (.head _)))).ob, hc₁, hd₁⟩⟩
end

/-! loops over enumerate -/
theorem enum_still {i : Int} {it : Addr} {old : Value} : still { cls := .type "enumerate", dict := none, data := .fields #[.none, .bool false, .ref it, rawInt i, .none, old], slots := #[] } = true := rfl

section
variable {K : Frag} {s₀ s : Shared} {env : Env} {m cm : Str → Option Value} {N : List (Addr × Kd)} {prog : Program} {w : World} {A : Around}

/-- the pair is taken apart into two names -/
theorem enum_pair {T e it : Addr} {i : Int} {v old : Value} {x y : Str} {px py pt : Pos} {q k : Nat} {R : Unit → Shared → Prop} {E : Value → Shared → Prop} {tk : Tok} (O : Own s₀ env) (hh : A.handled = none)
    (I : In K s₀ env m cm N s) (hT : s.heap.get? T = some (tupO [.int k tk, v])) (he : IsEnumOut s.heap e it i old T) (hf : s₀.heap.get? e = none) (hN : ∀ p ∈ N, p.1 ≠ e) (hTe : T ≠ e) (hx : env.kindOf x = some .local) (hy : env.kindOf y = some .local)
    (h : ∀ s', In K s₀ env (upd (upd m x (.int k tk)) y v) cm (N ++ [(e, .ob { cls := .type "enumerate", dict := none, data := .fields #[.none, .bool false, .ref it, rawInt i, .none, old], slots := #[] })]) s' → R () s') :
    wpAny (model prog w) A (letOwnedTupleGo (.Tuple [.Name x px, .Name y py] q pt) (.ref e) (.ref T)) (fun _ s₁ => wpAny (model prog w) A (assign (.Tuple [.Name x px, .Name y py] q pt) env (.ref T)) R E s₁) E s := by
  refine wpAny_letOwnedTupleGo_enum he fun h' he' hs' => ?_
  have I₁ : In K s₀ env m cm N { s with heap := h', toks := s.toks } := I.but (wr := [e]) (fun b hb => by rw [List.mem_singleton.mp hb]; exact hf) (fun b hb => by rw [List.mem_singleton.mp hb]; exact ⟨_, he, rfl⟩)
    (fun p hp q => hN p hp (List.mem_singleton.mp q)) fun b o hb e' => (hs'.2 b fun q => hb (List.mem_singleton.mpr q)).trans e'
  have I₂ := (I₁.add (k := .ob (tupO [.int k tk, v])) (a := T) ⟨_, (hs'.2 T hTe).trans hT, rfl, rfl⟩).app (L := [(e, .ob { cls := .type "enumerate", dict := none, data := .fields #[.none, .bool false, .ref it, rawInt i, .none, old], slots := #[] })])
    fun p hp => by rw [List.mem_singleton.mp hp]; exact ⟨_, he', rfl, rfl⟩
  exact asg2 O I₂ hh (.head _) (fun s' I' => h s' (I'.fewer fun p hp => .tail _ hp)) hx hy

theorem for_enum_lst {a : Addr} {x y : Str} {px py pt : Pos} {q n : Nat} {body : List Stmt} {Q : Flow → Shared → Prop} (J : Nat → (Str → Option Value) → (Str → Option Value) → List (Addr × Kd) → Prop)
    (kd : Nat → List (Addr × Kd) → Kd)
    (O : Own s₀ env) (hh : A.handled = none) (I : In K s₀ env m cm N s) (h0 : J 0 m cm N)
    (hJ : ∀ i m cm N, J i m cm N → (a, kd i N) ∈ N ∧ (kd i N).isL = true ∧ (kd i N).len = n ∧ ∀ p ∈ N, p.2.isL = true) (hx : env.kindOf x = some .local) (hy : env.kindOf y = some .local)
    (turn : ∀ i v t m' cm' N' L s', i < n → (kd i N').At i v → J i m' cm' N' → (∀ p ∈ L, ∀ q ∈ N', p.1 ≠ q.1) → In K s₀ env (upd (upd m' x (.int i t)) y v) cm' (N' ++ L) s' →
      wpAny (model prog w) A (execs body env) (TurnEnd K s₀ env (J (i + 1)) L Q) (fun _ _ => False) s')
    (done : ∀ m' cm' N' s', J n m' cm' N' → In K s₀ env m' cm' N' s' → Q .next s') :
    wpAny (model prog w) A (call (.type "enumerate") [.ref a]) (fun ev s₁ => wpAny (model prog w) A (pyIter ev) (fun it s₂ => codeAny (model prog w) A (.forLoop (.Tuple [.Name x px, .Name y py] q pt) it body [] env) (fun r s' => match r with | .ok f => Q f s' | .error e => cameBackBy (model prog w) A env (fun _ _ => False) e s') s₂) (fun _ _ => False) s₁) (fun _ _ => False) s := by
  obtain ⟨hm0, hk0, hl0, _⟩ := hJ _ _ _ _ h0
  obtain ⟨vs, hl, hlen, hat⟩ := (I.get hm0).lst hk0
  have hfe : s₀.heap.get? (s.heap.objs.size + 1) = none := by
    cases e : s₀.heap.get? (s.heap.objs.size + 1) with
    | none => rfl
    | some o => exact absurd (Heap.lt_size (I.old e)) (Nat.lt_asymm (Nat.lt_succ_self _))
  have hfi := I.fresh
  refine call_enumerate_list hl fun h' he hit hz hk => ?_
  refine wpAny_pyIter_enum he ?_
  have I' := I.kp (s' := { s with heap := h' }) ⟨h', s.toks, rfl, hk⟩
  have hei : s.heap.objs.size + 1 ≠ s.heap.objs.size := Nat.succ_ne_self _
  generalize s.heap.objs.size + 1 = e at he hfe hei ⊢
  generalize s.heap.objs.size = it at hit hfi he hei ⊢
  have he' : IsEnum ({ s with heap := h' } : Shared).heap e it ((0 : Nat) : Int) .none := he
  have hit' : ({ s with heap := h' } : Shared).heap.IsListIter it a 0 := hit
  generalize ({ s with heap := h' } : Shared) = s₁ at he' hit' I' ⊢
  refine codeAny_forLoop_any (fun j s' => ∃ (i : Nat) (m' cm' : Str → Option Value) (N' : List (Addr × Kd)) (old : Value), j = n + 1 - i ∧ i ≤ n ∧ J i m' cm' N' ∧ In K s₀ env m' cm' N' s' ∧ IsEnum s'.heap e it (i : Int) old ∧ s'.heap.IsListIter it a i) ?_ (n + 1)
    ⟨0, m, cm, N, .none, rfl, Nat.zero_le _, h0, I', he', hit'⟩
  rintro j s' ⟨i, m', cm', N', old, rfl, hi, hJi, Ii, hE, hIt⟩
  obtain ⟨hmem, hkk, hkl, hNL⟩ := hJ _ _ _ _ hJi
  obtain ⟨vs, hL, hlen, hat⟩ := (Ii.get hmem).lst hkk
  obtain ⟨oi, hoi, hci, hdi⟩ := id hIt
  have hst : ∀ b ∈ [e, it], ∃ o, s'.heap.get? b = some o ∧ still o = true := fun b hb => by
    rcases List.mem_cons.mp hb with rfl | hb
    · exact ⟨_, hE, rfl⟩
    · rw [List.mem_singleton.mp hb]; exact ⟨oi, hoi, by simp [still, hdi]⟩
  have hoffE : ∀ p ∈ N', p.1 ≠ e := fun p hp => Is.lst_ne (hNL p hp) (Ii.led p hp) hE (by intro q; injection q with q; exact absurd q (by decide))
  have hoffI : ∀ p ∈ N', p.1 ≠ it := fun p hp => Is.lst_ne (hNL p hp) (Ii.led p hp) hoi (by rw [hci]; decide)
  have hoff : ∀ p ∈ N', p.1 ∉ [e, it] := fun p hp q => by
    rcases List.mem_cons.mp q with q | q
    · exact hoffE p hp q
    · exact hoffI p hp (List.mem_singleton.mp q)
  have hfr' : ∀ b ∈ [e, it], s₀.heap.get? b = none := fun b hb => by
    rcases List.mem_cons.mp hb with rfl | hb
    · exact hfe
    · rw [List.mem_singleton.mp hb]; exact hfi
  cases hv : vs[i]? with
  | none =>
    have hsz : i = n := by have := List.getElem?_eq_none_iff.mp hv; omega
    refine wpAny_pyNext_enum_end hh hE hIt hL (by simpa using hv) fun h₁ he₁ => wpAny_execs_nil ?_
    have I₁ := Ii.but (t := s'.toks) hfr' hst hoff (h' := h₁) fun b o hb e' => he₁ b o (fun q => hb (List.mem_cons_of_mem _ (List.mem_singleton.mpr q))) e'
    exact done _ _ _ _ (hsz ▸ hJi) I₁
  | some v =>
    have hlt : i < n := by have := (List.getElem?_eq_some_iff.mp hv).1; omega
    have hTe : s'.heap.objs.size ≠ e := Nat.ne_of_gt (Heap.lt_size hE)
    have hTi : s'.heap.objs.size ≠ it := Nat.ne_of_gt (Heap.lt_size hoi)
    refine wpAny_pyNext_enum_item hE hIt hL (by simpa using hv) hei fun h₁ hEo hIt₁ hT hz₁ hk₁ => ?_
    have I₁ := Ii.but (t := s'.toks + 1) hfr' hst hoff (h' := h₁) fun b o hb e' => hk₁ b o (fun q => hb (by simp [q])) (fun q => hb (by simp [q])) e'
    obtain ⟨o₁, ho₁, hc₁, hd₁⟩ := id hIt₁
    have hst₁ : still o₁ = true := by simp [still, hd₁]
    have I₂ := I₁.app (L := [(it, .ob o₁)]) fun p hp => by rw [List.mem_singleton.mp hp]; exact ⟨o₁, ho₁, rfl, hst₁⟩
    refine enum_pair (k := i) (v := v) (old := v) (i := (i : Int) + 1) (it := it) (tk := s'.toks) O hh I₂ hT hEo hfe (fun p hp => ?_) hTe hx hy fun s₂ I₃ => ?_
    · rcases List.mem_append.mp hp with hp | hp
      · exact hoffE p hp
      · rw [List.mem_singleton.mp hp]; exact hei.symm
    have I₃' : In K s₀ env (upd (upd m' x (.int i s'.toks)) y v) cm' (N' ++ [(it, Kd.ob o₁), (e, Kd.ob { cls := .type "enumerate", dict := none, data := .fields #[.none, .bool false, .ref it, rawInt ((i : Int) + 1), .none, v], slots := #[] })]) s₂ := by
      simpa using I₃
    refine wpAny_mono (turn i v s'.toks m' cm' N' _ s₂ hlt (hat i v hv) hJi (fun p hp q hq e => hoff q hq (by rcases List.mem_cons.mp hp with rfl | hp; exact e ▸ .tail _ (.head _); rw [← e, List.mem_singleton.mp hp]; exact .head _)) I₃') (fun f s₃ hf => ?_) fun _ _ h => h.elim
    have fin : (∃ m cm N, J (i + 1) m cm N ∧ In K s₀ env m cm (N ++ [(it, Kd.ob o₁), (e, Kd.ob { cls := .type "enumerate", dict := none, data := .fields #[.none, .bool false, .ref it, rawInt ((i : Int) + 1), .none, v], slots := #[] })]) s₃) →
        ∃ m₁, m₁ < n + 1 - i ∧ ∃ (i' : Nat) (m' cm' : Str → Option Value) (N' : List (Addr × Kd)) (old : Value), m₁ = n + 1 - i' ∧ i' ≤ n ∧ J i' m' cm' N' ∧ In K s₀ env m' cm' N' s₃ ∧ IsEnum s₃.heap e it (i' : Int) old ∧ s₃.heap.IsListIter it a i' := by
      rintro ⟨m₄, cm₄, N₄, hJ₄, I₄⟩
      refine ⟨n + 1 - (i + 1), by omega, i + 1, m₄, cm₄, N₄, v, rfl, hlt, hJ₄, I₄.fewer fun p hp => List.mem_append.mpr (.inl hp), ?_, ⟨o₁, (I₄.led (it, .ob o₁) (List.mem_append.mpr (.inr (.head _)))).ob, hc₁, hd₁⟩⟩
      have := (I₄.led (e, _) (List.mem_append.mpr (.inr (.tail _ (.head _))))).ob
      simpa using this
    cases f with
    | brk => exact hf
    | ret v => exact hf
    | next => exact fin hf
    | cont => exact fin hf
end

theorem drawsStr {prog : Program} {w : World} {A : Around} (hh : A.handled = none) (it : Addr) (x : Str) (t : Tok) :
    Draws prog w A it [it] x.cps.size (fun i v => ∃ c u, x.cps[i]? = some c ∧ v = .str ⟨#[c]⟩ u) (fun i h => h.IsStrIter it (strIterType x) x t i) := by
  cases ha : x.cps.all (· < 128)
  · have : strIterType x = "str_iterator" := by simp [strIterType, ha]
    rw [this]; exact Draws.strWide hh it x t
  · have : strIterType x = "str_ascii_iterator" := by simp [strIterType, ha]
    rw [this]; exact Draws.strAscii hh it x t
theorem strIter_ne (x : Str) : Value.type (strIterType x) ≠ .type "list" := by
  unfold strIterType; split <;> decide

section
variable {K : Frag} {s₀ s : Shared} {env : Env} {m cm : Str → Option Value} {N : List (Addr × Kd)} {prog : Program} {w : World} {A : Around}
theorem for_enum_str {z : Str} {tz : Tok} {x y : Str} {px py pt : Pos} {q : Nat} {body : List Stmt} {Q : Flow → Shared → Prop} (J : Nat → (Str → Option Value) → (Str → Option Value) → List (Addr × Kd) → Prop)
    (O : Own s₀ env) (hh : A.handled = none) (I : In K s₀ env m cm N s) (h0 : J 0 m cm N)
    (hJ : ∀ i m cm N, J i m cm N → ∀ p ∈ N, p.2.isL = true) (hx : env.kindOf x = some .local) (hy : env.kindOf y = some .local)
    (turn : ∀ i c u t m' cm' N' L s', z.cps[i]? = some c → J i m' cm' N' → (∀ p ∈ L, ∀ q ∈ N', p.1 ≠ q.1) → In K s₀ env (upd (upd m' x (.int i t)) y (.str ⟨#[c]⟩ u)) cm' (N' ++ L) s' →
      wpAny (model prog w) A (execs body env) (TurnEnd K s₀ env (J (i + 1)) L Q) (fun _ _ => False) s')
    (done : ∀ m' cm' N' s', J z.cps.size m' cm' N' → In K s₀ env m' cm' N' s' → Q .next s') :
    wpAny (model prog w) A (call (.type "enumerate") [.str z tz]) (fun ev s₁ => wpAny (model prog w) A (pyIter ev) (fun it s₂ => codeAny (model prog w) A (.forLoop (.Tuple [.Name x px, .Name y py] q pt) it body [] env) (fun r s' => match r with | .ok f => Q f s' | .error e => cameBackBy (model prog w) A env (fun _ _ => False) e s') s₂) (fun _ _ => False) s₁) (fun _ _ => False) s := by
  have hfe : s₀.heap.get? (s.heap.objs.size + 1) = none := by
    cases e : s₀.heap.get? (s.heap.objs.size + 1) with
    | none => rfl
    | some o => exact absurd (Heap.lt_size (I.old e)) (Nat.lt_asymm (Nat.lt_succ_self _))
  have hfi := I.fresh
  refine call_enumerate_str fun h' he hit hz hk => ?_
  refine wpAny_pyIter_enum he ?_
  have I' := I.kp (s' := { s with heap := h' }) ⟨h', s.toks, rfl, hk⟩
  have hei : s.heap.objs.size + 1 ≠ s.heap.objs.size := Nat.succ_ne_self _
  generalize s.heap.objs.size + 1 = e at he hfe hei ⊢
  generalize s.heap.objs.size = it at hit hfi he hei ⊢
  have he' : IsEnum ({ s with heap := h' } : Shared).heap e it ((0 : Nat) : Int) .none := he
  have hit' : ({ s with heap := h' } : Shared).heap.IsStrIter it (strIterType z) z tz 0 := hit
  generalize ({ s with heap := h' } : Shared) = s₁ at he' hit' I' ⊢
  have D := drawsStr (prog := prog) (w := w) (A := A.in1) hh it z tz
  generalize hn : z.cps.size = n at D done
  refine codeAny_forLoop_any (fun j s' => ∃ (i : Nat) (m' cm' : Str → Option Value) (N' : List (Addr × Kd)) (old : Value), j = n + 1 - i ∧ i ≤ n ∧ J i m' cm' N' ∧ In K s₀ env m' cm' N' s' ∧ IsEnum s'.heap e it (i : Int) old ∧ s'.heap.IsStrIter it (strIterType z) z tz i) ?_ (n + 1)
    ⟨0, m, cm, N, .none, rfl, Nat.zero_le _, h0, I', he', hit'⟩
  rintro j s' ⟨i, m', cm', N', old, rfl, hi, hJi, Ii, hE, hIt⟩
  have hNL := hJ _ _ _ _ hJi
  obtain ⟨oi, hoi, hci, hdi⟩ := id hIt
  have hst : ∀ b ∈ [e, it], ∃ o, s'.heap.get? b = some o ∧ still o = true := fun b hb => by
    rcases List.mem_cons.mp hb with rfl | hb
    · exact ⟨_, hE, rfl⟩
    · rw [List.mem_singleton.mp hb]; exact ⟨oi, hoi, by simp [still, hdi]⟩
  have hoffE : ∀ p ∈ N', p.1 ≠ e := fun p hp => Is.lst_ne (hNL p hp) (Ii.led p hp) hE (by intro q; injection q with q; exact absurd q (by decide))
  have hoffI : ∀ p ∈ N', p.1 ≠ it := fun p hp => Is.lst_ne (hNL p hp) (Ii.led p hp) hoi (by rw [hci]; exact strIter_ne z)
  have hoff : ∀ p ∈ N', p.1 ∉ [e, it] := fun p hp q => by
    rcases List.mem_cons.mp q with q | q
    · exact hoffE p hp q
    · exact hoffI p hp (List.mem_singleton.mp q)
  have hfr' : ∀ b ∈ [e, it], s₀.heap.get? b = none := fun b hb => by
    rcases List.mem_cons.mp hb with rfl | hb
    · exact hfe
    · rw [List.mem_singleton.mp hb]; exact hfi
  by_cases hlt : i < n
  · have hTe : s'.heap.objs.size ≠ e := Nat.ne_of_gt (Heap.lt_size hE)
    refine wpAny_pyNext_enum_itemD D hE hIt hlt hei (by simpa using hei) fun v h₁ tk hP hEo hIt₁ hT hz₁ hk₁ => ?_
    obtain ⟨c, u, hc, rfl⟩ := hP
    have I₁ := Ii.but (t := tk + 1) hfr' hst hoff (h' := h₁) fun b o hb e' => hk₁ b o (fun q => hb (by simp [q])) (fun q => hb (by simp [q])) e'
    obtain ⟨o₁, ho₁, hc₁, hd₁⟩ := id hIt₁
    have hst₁ : still o₁ = true := by simp [still, hd₁]
    have I₂ := I₁.app (L := [(it, .ob o₁)]) fun p hp => by rw [List.mem_singleton.mp hp]; exact ⟨o₁, ho₁, rfl, hst₁⟩
    refine enum_pair (k := i) (v := .str ⟨#[c]⟩ u) (old := .str ⟨#[c]⟩ u) (i := (i : Int) + 1) (it := it) (tk := tk) O hh I₂ hT hEo hfe (fun p hp => ?_) hTe hx hy fun s₂ I₃ => ?_
    · rcases List.mem_append.mp hp with hp | hp
      · exact hoffE p hp
      · rw [List.mem_singleton.mp hp]; exact hei.symm
    have I₃' : In K s₀ env (upd (upd m' x (.int i tk)) y (.str ⟨#[c]⟩ u)) cm' (N' ++ [(it, Kd.ob o₁), (e, Kd.ob { cls := .type "enumerate", dict := none, data := .fields #[.none, .bool false, .ref it, rawInt ((i : Int) + 1), .none, .str ⟨#[c]⟩ u], slots := #[] })]) s₂ := by
      simpa using I₃
    refine wpAny_mono (turn i c u tk m' cm' N' _ s₂ hc hJi (fun p hp q hq e => hoff q hq (by rcases List.mem_cons.mp hp with rfl | hp; exact e ▸ .tail _ (.head _); rw [← e, List.mem_singleton.mp hp]; exact .head _)) I₃') (fun f s₃ hf => ?_) fun _ _ h => h.elim
    have fin : (∃ m cm N, J (i + 1) m cm N ∧ In K s₀ env m cm (N ++ [(it, Kd.ob o₁), (e, Kd.ob { cls := .type "enumerate", dict := none, data := .fields #[.none, .bool false, .ref it, rawInt ((i : Int) + 1), .none, .str ⟨#[c]⟩ u], slots := #[] })]) s₃) →
        ∃ m₁, m₁ < n + 1 - i ∧ ∃ (i' : Nat) (m' cm' : Str → Option Value) (N' : List (Addr × Kd)) (old : Value), m₁ = n + 1 - i' ∧ i' ≤ n ∧ J i' m' cm' N' ∧ In K s₀ env m' cm' N' s₃ ∧ IsEnum s₃.heap e it (i' : Int) old ∧ s₃.heap.IsStrIter it (strIterType z) z tz i' := by
      rintro ⟨m₄, cm₄, N₄, hJ₄, I₄⟩
      refine ⟨n + 1 - (i + 1), by omega, i + 1, m₄, cm₄, N₄, .str ⟨#[c]⟩ u, rfl, hlt, hJ₄, I₄.fewer fun p hp => List.mem_append.mpr (.inl hp), ?_, ⟨o₁, (I₄.led (it, .ob o₁) (List.mem_append.mpr (.inr (.head _)))).ob, hc₁, hd₁⟩⟩
      have := (I₄.led (e, _) (List.mem_append.mpr (.inr (.tail _ (.head _))))).ob
      simpa using this
    cases f with
    | brk => exact hf
    | ret v => exact hf
    | next => exact fin hf
    | cont => exact fin hf
  · have hsz : i = n := by omega
    subst hsz
    refine wpAny_pyNext_enum_endD D hE hIt fun h₁ he₁ => wpAny_execs_nil ?_
    have I₁ := Ii.but (t := s'.toks) hfr' hst hoff (h' := h₁) fun b o hb e' => he₁ b o (fun q => hb (List.mem_cons_of_mem _ (List.mem_singleton.mpr q))) e'
    exact done _ _ _ _ hJi I₁
end

section
variable {K : Frag} {s₀ s : Shared} {env : Env} {prog : Program} {w : World} {A : Around}
/-- a while by what holds of it -/
theorem while_inv {test : Expr} {body : List Stmt} {pos : Pos} {Q : Flow → Shared → Prop} (J : Nat → (Str → Option Value) → (Str → Option Value) → List (Addr × Kd) → Prop) {m cm : Str → Option Value} {N : List (Addr × Kd)} {n : Nat}
    (I : In K s₀ env m cm N s) (h0 : J n m cm N)
    (turn : ∀ n m' cm' N' s', J n m' cm' N' → In K s₀ env m' cm' N' s' →
      wpAny (model prog w) A (isTrue test env (eval test env)) (fun b s₂ =>
        if b then wpAny (model prog w) A (execs body env) (fun f s₃ => match f with
            | .brk => Q .next s₃
            | .ret v => Q (.ret v) s₃
            | _ => ∃ k m'' cm'' N'', k < n ∧ J k m'' cm'' N'' ∧ In K s₀ env m'' cm'' N'' s₃) (fun _ _ => False) s₂
        else Q .next s₂) (fun _ _ => False) s') :
    wpAny (model prog w) A (exec (.While test body [] pos) env) Q (fun _ _ => False) s := by
  refine wpAny_While (codeAny_whileLoop (fun j s' => ∃ m' cm' N', J j m' cm' N' ∧ In K s₀ env m' cm' N' s') ?_ n ⟨m, cm, N, h0, I⟩)
  rintro j s' ⟨m', cm', N', hJ, I'⟩
  refine wpAny_mono (turn j m' cm' N' s' hJ I') (fun b s₂ hb => ?_) fun _ _ h => h.elim
  cases b with
  | false => exact wpAny_execs_nil hb
  | true =>
    refine wpAny_mono (show wpAny _ _ _ _ _ _ from hb) (fun f s₃ hf => ?_) fun _ _ h => h.elim
    cases f with
    | brk => exact hf
    | ret v => exact hf
    | next => obtain ⟨k, a, b, c, d, e, f⟩ := hf; exact ⟨k, d, a, b, c, e, f⟩
    | cont => obtain ⟨k, a, b, c, d, e, f⟩ := hf; exact ⟨k, d, a, b, c, e, f⟩
end

/-! comprehensions over a list -/
theorem li_ne {a : Addr} : ({ cls := .type "list_iterator", data := .fields #[.ref a, .int 0 0] } : Obj).cls ≠ .type "list" := by
  show Value.type "list_iterator" ≠ .type "list"; decide
section
variable {K : Frag} {s₀ s : Shared} {env : Env} {m cm : Str → Option Value} {N : List (Addr × Kd)} {prog : Program} {w : World} {A : Around} {E : Value → Shared → Prop}

/-- a comprehension's own frame -/
theorem In.comp {s₂ s₃ : Shared} {scope : Scope} {cl : List (Str × Addr)} {C it : Addr} {m₃ : Str → Option Value} {o : Obj} (I : In K s₀ env m cm N s₂) (hf : s₀.heap.get? it = none) (ho : s₂.heap.get? it = some o) (hs : still o = true) (hc : o.cls ≠ .type "list") (hN : ∀ p ∈ N, p.2.isL = true)
    (hcl : ∀ n c, cl.lookup n = some c → env.cells.lookup n = some c) (hn : s₃.heap.Ns C m₃) (hk : ∀ b x, b ∉ [it] → s₂.heap.get? b = some x → s₃.heap.get? b = some x) : In K s₃ (compEnvC scope cl C env) m₃ cm N s₃ := by
  have kk : ∀ b x, s₀.heap.get? b = some x → s₃.heap.get? b = some x := fun b x e => hk b x (fun q => by rw [List.mem_singleton.mp q, hf] at e; cases e) (I.old e)
  refine ⟨Keeps.refl' _, hn, fun n c h => ?_, fun p hp => (I.led p hp).keeps fun x e => hk _ _ (fun q => Is.lst_ne (hN p hp) (I.led p hp) ho hc (List.mem_singleton.mp q)) e, I.wd.keeps kk⟩
  obtain ⟨oc, e, r⟩ := id (I.cell n c (hcl n c h))
  refine ⟨oc, hk _ _ (fun q => ?_) e, r⟩
  exact still_cell (I.cell n c (hcl n c h)) ⟨o, ho, (show Shape o (.ob o) from ⟨rfl, hs⟩)⟩ (List.mem_singleton.mp q).symm

/-- what a comprehension's turn asks -/
structure Turns (K : Frag) (prog : Program) (w : World) (A : Around) (env : Env) (scope : Scope) (cl : List (Str × Addr)) (x : Str) (ifs : List Expr) (elt : Expr) (k : Kd) (cm : Str → Option Value) (N : List (Addr × Kd)) (p : Value → Bool) (F : Value → Value → Prop) : Prop where
  tests : ∀ C i v s₃ m₃ E', k.At i v → In K s₃ (compEnvC scope cl C env) m₃ cm N s₃ → m₃ x = some v →
    wpAny (model prog w) A (forIn ifs true fun c r => if r = true then do let ok ← isTrue c (compEnvC scope cl C env) (eval c (compEnvC scope cl C env)); pure (ForInStep.yield ok) else pure (ForInStep.yield r)) (fun ok s₄ => ok = p v ∧ Keeps s₃ s₄) E' s₃
  elt : ∀ C i v s₃ m₃ E', k.At i v → p v = true → In K s₃ (compEnvC scope cl C env) m₃ cm N s₃ → m₃ x = some v → wpAny (model prog w) A (eval elt (compEnvC scope cl C env)) (fun y s₄ => F v y ∧ Keeps s₃ s₄) E' s₃

/-- the source's values -/
def Vals (k : Kd) (vs : List Value) : Prop := vs.length = k.len ∧ ∀ i v, vs[i]? = some v → k.At i v

theorem comp_expr {elt iter : Expr} {x : Str} {px : Pos} {ifs : List Expr} {scope : Scope} {cl : List (Str × Addr)} {pos : Pos} {Q : Value → Shared → Prop} {k : Kd} {a : Addr} (p : Value → Bool) (F : Value → Value → Prop)
    (hclos : closureFor scope env = pure cl) (hcl : ∀ n c, cl.lookup n = some c → env.cells.lookup n = some c) (hcell : ∀ y ∈ scope.names, y.2 ≠ .cell) (hkind : scope.kind = .function)
    (hnames : ∀ y ∈ scope.names, y.2 = .local → scope.names.lookup y.1 = some .local) (hx : scope.names.lookup x = some .local) (hh : A.handled = none)
    (h : wpAny (model prog w) A (eval iter env) (fun xv s₁ => ∃ m cm N a k, xv = .ref a ∧ In K s₀ env m cm N s₁ ∧ (a, k) ∈ N ∧ k.isL = true ∧ k.len ≤ 100000 ∧ (∀ p ∈ N, p.2.isL = true) ∧ Turns K prog w A env scope cl x ifs elt k cm N p F ∧
      (∀ D s' vs ys n, Vals k vs → Paired F (vs.filter p) ys → s'.heap.get? D = some (lstO ys n) → s₀.heap.get? D = none → In K s₀ env m cm N s' → Q (.ref D) s')) E s)
    (hs : ∀ x, foldedSetIterable iter env x = pure x := by intro _; rfl) :
    wpAny (model prog w) A (eval (.ListComp elt [⟨.Name x px, iter, ifs, 0⟩] scope pos) env) Q E s := by
  refine wpAny_ListComp_free p F hclos hcell hkind hnames hx (wpAny_mono h (fun xv s₁ h₁ => ?_) fun _ _ e => e) hs
  obtain ⟨m, cm, N, a, k, rfl, I, ha, hk, hlen, hN, T, hQ⟩ := h₁
  obtain ⟨vs, hl, hvl, hat⟩ := (I.get ha).lst hk
  refine wpAny_pyIter_list hl ?_
  have hfr := I.fresh
  have hne : a ≠ s₁.heap.objs.size := by obtain ⟨o, e, _⟩ := hl; exact Nat.ne_of_lt (Heap.lt_size e)
  have W := Walks.list (prog := prog) (w := w) hh s₁.heap.objs.size a hne vs.toArray
  have I' := I.kp (s' := { s₁ with heap := s₁.heap.push { cls := .type "list_iterator", data := .fields #[.ref a, .int 0 0] } }) Keeps.push
  have hit : ({ s₁ with heap := s₁.heap.push { cls := .type "list_iterator", data := .fields #[.ref a, .int 0 0] } } : Shared).heap.get? s₁.heap.objs.size = some { cls := .type "list_iterator", data := .fields #[.ref a, .int 0 0] } := Heap.get?_push_size _ rfl
  refine ⟨_, _, _, _, _, _, rfl, W, by simp only [List.size_toArray, sizeLine_eq]; omega, ⟨⟨_, hit, rfl, rfl⟩, hl.push _⟩, ?_, ?_, ?_⟩
  · intro b hb
    show b < (s₁.heap.push _).objs.size
    rw [Heap.size_push]
    rcases List.mem_cons.mp hb with rfl | hb
    · exact Nat.lt_succ_self _
    · rw [List.mem_singleton.mp hb]; obtain ⟨o, e, _⟩ := hl; exact Nat.lt_succ_of_lt (Heap.lt_size e)
  · refine ⟨fun C i v s₃ m₃ E' _ hP hn hv hk' _ => T.tests C i v s₃ m₃ E' (hat i v (by simpa using hP)) (I'.comp hfr hit rfl li_ne hN hcl hn hk') hv,
      fun C i v s₃ m₃ E' _ hP hpv hn hv hk' _ => T.elt C i v s₃ m₃ E' (hat i v (by simpa using hP)) hpv (I'.comp hfr hit rfl li_ne hN hcl hn hk') hv⟩
  · intro D h' tk ys ws hD _ hpl hwl hwP hF hkeep
    have hws : ws = vs := by simpa using list_of_places (items := vs.toArray) hwl hwP
    subst hws
    obtain ⟨n, hpl⟩ := hpl
    refine hQ D _ ws ys.toList n ⟨hvl, hat⟩ hF (by simpa using hpl) (I'.newer hD) ?_
    refine I'.but (t := tk) (wr := [s₁.heap.objs.size]) (fun b hb => by rw [List.mem_singleton.mp hb]; exact hfr) (fun b hb => by rw [List.mem_singleton.mp hb]; exact ⟨_, hit, rfl⟩) (fun p hp q => ?_) hkeep
    exact Is.lst_ne (hN p hp) (I'.led p hp) hit li_ne (List.mem_singleton.mp q)

theorem comp_assign {elt iter : Expr} {x y : Str} {px py : Pos} {ifs : List Expr} {scope : Scope} {cl : List (Str × Addr)} {pos spos : Pos} {Q : Flow → Shared → Prop} (p : Value → Bool) (F : Value → Value → Prop)
    (hsw : swapsWith (.ListComp elt [⟨.Name x px, iter, ifs, 0⟩] scope pos) (some (.Name y py)) spos.line env = pure true)
    (hclos : closureFor scope env = pure cl) (hcl : ∀ n c, cl.lookup n = some c → env.cells.lookup n = some c) (hcell : ∀ y ∈ scope.names, y.2 ≠ .cell) (hkind : scope.kind = .function)
    (hnames : ∀ y ∈ scope.names, y.2 = .local → scope.names.lookup y.1 = some .local) (hx : scope.names.lookup x = some .local) (hy : env.kindOf y = some .local) (O : Own s₀ env) (hh : A.handled = none)
    (h : wpAny (model prog w) A (eval iter env) (fun xv s₁ => ∃ m cm N a k, xv = .ref a ∧ In K s₀ env m cm N s₁ ∧ (a, k) ∈ N ∧ k.isL = true ∧ k.len ≤ 100000 ∧ (∀ p ∈ N, p.2.isL = true) ∧ Turns K prog w A env scope cl x ifs elt k cm N p F ∧
      (∀ D s' vs ys n, Vals k vs → Paired F (vs.filter p) ys → s'.heap.get? D = some (lstO ys n) → s₀.heap.get? D = none → In K s₀ env (upd m y (.ref D)) cm N s' → Q .next s')) E s)
    (hs : ∀ x, foldedSetIterable iter env x = pure x := by intro _; rfl) :
    wpAny (model prog w) A (exec (.Assign [.Name y py] (.ListComp elt [⟨.Name x px, iter, ifs, 0⟩] scope pos) spos) env) Q E s := by
  refine wpAny_Assign_ListComp_free p F hsw hclos hcell hkind hnames hx hy (by rw [O.kind]; rfl) (wpAny_mono h (fun xv s₁ h₁ => ?_) fun _ _ e => e) hs
  obtain ⟨m, cm, N, a, k, rfl, I, ha, hk, hlen, hN, T, hQ⟩ := h₁
  obtain ⟨vs, hl, hvl, hat⟩ := (I.get ha).lst hk
  refine wpAny_pyIter_list hl ?_
  have hfr := I.fresh
  have hne : a ≠ s₁.heap.objs.size := by obtain ⟨o, e, _⟩ := hl; exact Nat.ne_of_lt (Heap.lt_size e)
  have W := Walks.list (prog := prog) (w := w) hh s₁.heap.objs.size a hne vs.toArray
  have I' := I.kp (s' := { s₁ with heap := s₁.heap.push { cls := .type "list_iterator", data := .fields #[.ref a, .int 0 0] } }) Keeps.push
  have hit : ({ s₁ with heap := s₁.heap.push { cls := .type "list_iterator", data := .fields #[.ref a, .int 0 0] } } : Shared).heap.get? s₁.heap.objs.size = some { cls := .type "list_iterator", data := .fields #[.ref a, .int 0 0] } := Heap.get?_push_size _ rfl
  have hLw : env.locals ∉ [s₁.heap.objs.size] := fun q => absurd I.ns.lt (by rw [List.mem_singleton.mp q]; exact Nat.lt_irrefl _)
  refine ⟨_, _, _, _, _, _, _, rfl, W, by simp only [List.size_toArray, sizeLine_eq]; omega, ⟨⟨_, hit, rfl, rfl⟩, hl.push _⟩, ?_, hLw, I'.ns, ?_, ?_⟩
  · intro b hb
    show b < (s₁.heap.push _).objs.size
    rw [Heap.size_push]
    rcases List.mem_cons.mp hb with rfl | hb
    · exact Nat.lt_succ_self _
    · rw [List.mem_singleton.mp hb]; obtain ⟨o, e, _⟩ := hl; exact Nat.lt_succ_of_lt (Heap.lt_size e)
  · refine ⟨fun C i v s₃ m₃ E' _ hP hn hv hk' _ => T.tests C i v s₃ m₃ E' (hat i v (by simpa using hP)) (I'.comp hfr hit rfl li_ne hN hcl hn hk') hv,
      fun C i v s₃ m₃ E' _ hP hpv hn hv hk' _ => T.elt C i v s₃ m₃ E' (hat i v (by simpa using hP)) hpv (I'.comp hfr hit rfl li_ne hN hcl hn hk') hv⟩
  · intro D h' tk ys ws hD _ hpl hwl hwP hF hns hkeep
    have hws : ws = vs := by simpa using list_of_places (items := vs.toArray) hwl hwP
    subst hws
    obtain ⟨n, hpl⟩ := hpl
    refine hQ D _ ws ys.toList n ⟨hvl, hat⟩ hF (by simpa using hpl) (I'.newer hD) ?_
    have hit_off : ∀ b o, b ≠ env.locals → b ≠ s₁.heap.objs.size → (s₁.heap.push { cls := .type "list_iterator", data := .fields #[.ref a, .int 0 0] }).get? b = some o → h'.get? b = some o := fun b o hb hb' e => hkeep b o hb (fun q => hb' (List.mem_singleton.mp q)) e
    refine ⟨?_, hns, fun n c hc => ?_, fun p hp => (I'.led p hp).keeps fun o e => hit_off _ _ (still_ne I'.ns (I'.led p hp)) (Is.lst_ne (hN p hp) (I'.led p hp) hit li_ne) e, I.wd⟩
    · obtain ⟨hh', t', e', kk⟩ := I.ks
      subst e'
      exact ⟨h', tk, rfl, fun b o e => hit_off b o (fun q => by rw [q] at e; exact absurd (Heap.lt_size e) (Nat.not_lt.mpr O.lo)) (fun q => by rw [q] at e; rw [hfr] at e; cases e) (Heap.get?_push_of_some _ (kk b o e))⟩
    · obtain ⟨oc, e, r⟩ := id (I'.cell n c hc)
      refine ⟨oc, hit_off _ _ (Nat.ne_of_gt (O.above n c (mem_of_lookup hc))) (fun q => ?_) e, r⟩
      exact still_cell (I'.cell n c hc) ⟨_, hit, (show Shape _ (.ob _) from ⟨rfl, rfl⟩)⟩ q.symm
end

/-! texts to texts -/
def onS (q : Str → Bool) (v : Value) : Bool := match v with | .str x _ => q x | _ => false
def mapS (g : Str → Str) (v y : Value) : Prop := ∃ x t u, v = .str x t ∧ y = .str (g x) u
theorem vals_tl {xs : List Str} {vs : List Value} (h : Vals (.tl xs) vs) : ∃ l, vs = strValues l ∧ l.map (·.1) = xs := by
  induction xs generalizing vs with
  | nil =>
    have : vs = [] := List.eq_nil_of_length_eq_zero h.1
    exact ⟨[], by simp [this, strValues], rfl⟩
  | cons x xs ih =>
    cases vs with
    | nil => cases h.1
    | cons v vs =>
      have h1 : Vals (.tl xs) vs := ⟨Nat.succ.inj h.1, fun i w hw => by simpa [Kd.At] using h.2 (i + 1) w (by simpa using hw)⟩
      obtain ⟨l, rfl, rfl⟩ := ih h1
      obtain ⟨y, t, hy, rfl⟩ := h.2 0 v rfl
      simp only [List.getElem?_cons_zero, Option.some.injEq] at hy
      exact ⟨(y, t) :: l, rfl, by simp [hy]⟩
theorem paired_tl {q : Str → Bool} {g : Str → Str} : ∀ {l : List (Str × Tok)} {ys : List Value}, Paired (mapS g) ((strValues l).filter (onS q)) ys → ∃ l', ys = strValues l' ∧ l'.map (·.1) = ((l.map (·.1)).filter q).map g
  | [], ys, h => by
    cases h
    exact ⟨[], rfl, rfl⟩
  | (x, t) :: l, ys, h => by
    have e : strValues ((x, t) :: l) = .str x t :: strValues l := rfl
    rw [e, List.filter_cons] at h
    by_cases hq : q x = true
    · rw [if_pos (show onS q (.str x t) = true from hq)] at h
      cases h with
      | cons h1 h2 =>
        obtain ⟨x', t', u, e1, rfl⟩ := h1
        cases e1
        obtain ⟨l', rfl, hl'⟩ := paired_tl h2
        exact ⟨(g x, u) :: l', rfl, by simp [hq, hl']⟩
    · rw [if_neg (show ¬ onS q (.str x t) = true from hq)] at h
      obtain ⟨l', rfl, hl'⟩ := paired_tl h
      exact ⟨l', rfl, by simp [hq, hl']⟩
theorem comp_is {xs : List Str} {vs ys : List Value} {q : Str → Bool} {g : Str → Str} {h : Heap} {D : Addr} {n : Nat} (hv : Vals (.tl xs) vs) (hp : Paired (mapS g) (vs.filter (onS q)) ys) (e : h.get? D = some (lstO ys n)) : Is h D (.tl ((xs.filter q).map g)) := by
  obtain ⟨l, rfl, rfl⟩ := vals_tl hv
  obtain ⟨l', rfl, hl'⟩ := paired_tl hp
  exact Is.of_tl e hl'

/- one step through the text: what its node asks -/
local macro_rules | `(tactic| walk_at "m") => `(tactic| first
  | with_reducible refine wpAny_execs_cons ?_
  | with_reducible refine wpAny_execs_nil ?_
  | with_reducible refine wpAny_Return_some ?_
  | ((with_reducible refine' wpAny_Assign_Name ?_ ?hs); (case hs => exact rfl))
  | with_reducible refine wpAny_AugAssign_Name ?_
  | with_reducible refine wpAny_BinOp ?_
  | ((with_reducible refine' wpAny_Compare1 ?_ ?hm); (case hm => with_unfolding_all rfl))
  | ((with_reducible refine' wpAny_isTrue_Compare1 ?_ ?hm); (case hm => with_unfolding_all rfl))
  | ((with_reducible refine' isTrue_chain ?_ ?hm); (case hm => with_unfolding_all rfl))
  | with_reducible refine isTrue_not ?_
  | with_reducible refine isTrue_and_nil ?_
  | with_reducible refine isTrue_or_nil ?_
  | with_reducible refine isTrue_and ?_
  | with_reducible refine isTrue_or ?_
  | ((with_reducible refine' isTrue_plain ?_ ?he); (case he => exact rfl))
  | with_reducible refine wpAny_truthy_bool ?_
  | ((with_reducible refine' MethodCall_ ?_ ?he); (case he => exact rfl))
  | ((with_reducible refine' Call_ ?_ ?he); (case he => exact rfl))
  | ((with_reducible refine' args_cons ?_ ?he); (case he => exact rfl))
  | with_reducible refine args_nil ?_
  | ((with_reducible refine' cI ?i ?_); (case i => assumption); intro _ _ _)
  | ((with_reducible refine' cS ?i ?_); (case i => assumption); intro _ _ _)
  | ((with_reducible refine' nm ?i ?v ?_ ?k ?l ?d); (case i => assumption); (case k => exact rfl); (case l => exact rfl); (case v => first | exact rfl | assumption); (case d => decide))
  | ((with_reducible refine' nmL ?i ?v ?_ ?k ?l); (case i => assumption); (case k => exact rfl); (case l => exact rfl); (case v => first | exact rfl | assumption))
  | ((with_reducible refine' nmC ?i ?v ?_ ?c ?k ?l ?d); (case i => assumption); (case k => exact rfl); (case l => exact rfl); (case c => exact rfl); (case v => first | exact rfl | assumption); (case d => decide))
  | ((with_reducible refine' nmB ?i ?e ?v ?_ ?n ?k ?l ?g ?b ?d); (case i => assumption); (case k => exact rfl); (case l => exact rfl); (case g => exact rfl); (case b => exact rfl); (case e => k_is); (case v => boot_by_name); (case n => decide); (case d => decide))
  | ((with_reducible refine' nmK ?i ?e ?_ ?k ?l ?g ?d); (case i => assumption); (case k => exact rfl); (case l => exact rfl); (case g => exact rfl); (case e => k_is); (case d => decide))
  | ((with_reducible refine' callWith_method1 ?_ ?he ?hp); (case he => exact rfl); (case hp => exact rfl))
  | ((with_reducible refine' callK ?i ?k ?_ ?he ?hp); (case i => assumption); (case k => k_is); (case he => exact rfl); (case hp => exact rfl))
  | ((with_reducible refine' st ?o ?i ?_ ?l); (case o => assumption); (case i => assumption); (case l => exact rfl); intro _ _)
  | ((with_reducible refine' stC ?o ?i ?_ ?c ?l); (case o => assumption); (case i => assumption); (case l => exact rfl); (case c => exact rfl); intro _ _)
  | with_reducible refine ltI ?_
  | with_reducible refine leI ?_
  | with_reducible refine gtI ?_
  | with_reducible refine geI ?_
  | with_reducible refine eqI ?_
  | with_reducible refine eqS ?_
  | with_reducible refine neS ?_
  | ((with_reducible refine' addI ?i ?_); (case i => assumption); intro _ _ _)
  | ((with_reducible refine' iaddI ?i ?_); (case i => assumption); intro _ _ _)
  | ((with_reducible refine' subI ?i ?_); (case i => assumption); intro _ _ _)
  | ((with_reducible refine' Subscript_ ?_))
  | with_reducible refine GM.lstrip ?_
  | with_reducible refine GM.rstrip ?_
  | with_reducible refine GM.split ?_
  | with_reducible refine GM.join ?_
  | with_reducible refine GM.startswith ?_
  | with_reducible refine GM.endswith ?_
  | with_reducible refine GM.rfind ?_
  | ((with_reducible refine' lenS ?i ?b ?_); (case i => assumption); (case b => first | assumption | omega); intro _ _ _)
  | ((with_reducible refine' lstripS ?i ?b ?_); (case i => assumption); (case b => first | assumption | omega); intro _ _ _)
  | ((with_reducible refine' rstripS ?i ?b ?_); (case i => assumption); (case b => first | assumption | omega); intro _ _ _)
  | with_reducible refine startsS ?_
  | with_reducible refine endsS ?_
  | ((with_reducible refine' rfindS ?i ?_); (case i => assumption); intro _ _ _)
  | ((with_reducible refine' PyProof.Rows.callWith_type1 ?_ ?he ?hp); (case he => exact rfl); (case hp => exact rfl))
  | with_reducible refine List_ ?_
  | with_reducible refine Tuple_ ?_
  | with_reducible refine evSlice ?_
  | with_reducible refine evalPart_some_step ?_
  | with_reducible refine evalPart_none_step ?_
  | ((with_reducible refine' SliceEnd.mk ?i ?_); (case i => assumption); intro _ _ _)
  | ((with_reducible refine' Assign_Tuple ?_ ?hs ?hw); (case hs => exact rfl); (case hw => exact rfl))
  | ((with_reducible refine' Assign_Tuple_swapped ?_ ?hs ?hw); (case hs => exact rfl); (case hw => exact rfl))
  | ((with_reducible refine' wpAny_For ?_ ?hs); (case hs => intro _; exact rfl))
  | ((with_reducible refine' wpAny_Expr ?_ ?hi ?hs); (case hi => exact rfl); (case hs => exact rfl))
  | ((with_reducible refine' wpAny_Assign_Subscript ?_ ?hs); (case hs => exact rfl))
  | with_reducible refine wpAny_Break ?_
  | with_reducible refine TurnEnd.brk ?_
  | with_reducible refine TurnEnd.ret ?_
  | with_reducible refine test_link ?_
  | ((with_reducible show wpAny _ _ (testChain _ _ _ _) _ _ _); refine test_last ?_)
  | fail "no step")
/- a def's frame is laid: what its entering asks -/
local macro_rules | `(tactic| walk_at "ent") => `(tactic| all_goals first | k_is | exact rfl | exact fun _ => rfl | skip)
/- steps as far as they go -/
local macro_rules | `(tactic| walk_at "w") => `(tactic| repeat (first | walk_at "m" | with_reducible refine wpAny_If ?_ | (dsimp only [List.nil_append, List.cons_append]; walk_at "m")))
/- the same, not into an if -/
local macro_rules | `(tactic| walk_at "v") => `(tactic| repeat (first | walk_at "m" | (dsimp only [List.nil_append, List.cons_append]; walk_at "m")))

def blanks (row : Str) : Int := row.length - (Txt.lstripChars row " ").length

theorem blanks_does {w : World} {row : Str} {t : Tok} (hb : row.length ≤ 100000) : Does w 1 148 [.str row t] (fun _ => True) (fun _ v _ => ∃ t, v = .int (blanks row) t) := by
  unfold Does
  k_fill
  intro A s E Q W r _ h
  refine' enter [("row", .str row t)] (upd (fun _ => none) "row" (.str row t)) (fun _ => none) W r.room ?ho ?hc ?hb ?hk ?h1 ?h2 ?h3 ?hm ?hcm ?_
  walk_at "ent"
  intro L s₁ O I
  have hl := len_lstripChars row " "
  walk_at "w"
  exact h _ _ (In.ks (by assumption)) ⟨_, rfl⟩

/-- the names drawn -/
def names4 : List Str := ["a", "b", ".a", "a b"]
theorem name_does {w : World} {d : Int} {t : Tok} (x : Str) (hx : names4[(d % 4).toNat]? = some x) : Does w 1 155 [.int d t] (fun _ => True) (fun _ v _ => ∃ t, v = .str x t) := by
  unfold Does
  k_fill
  intro A s E Q W r _ h
  refine' enter [("draw", .int d t)] (upd (fun _ => none) "draw" (.int d t)) (fun _ => none) W r.room ?ho ?hc ?hb ?hk ?h1 ?h2 ?h3 ?hm ?hcm ?_
  walk_at "ent"
  intro L s₁ O I
  walk_at "w"
  refine newL (l := [("a", _), ("b", _), (".a", _), ("a b", _)]) (by assumption) rfl ?_
  intro _ _ _ _
  walk_at "w"
  refine modJ (by assumption) (by decide) ?_
  intro _ _ _
  refine itL (by assumption) (.head _) (Int.emod_nonneg _ (by decide)) (by decide) hx ?_
  intro _
  exact h _ _ (In.ks (by assumption)) ⟨_, rfl⟩

/-! issubclass(str, (str, bytes)) -/
section
variable {prog : Program} {w : World} {A : Around} {E : Value → Shared → Prop} {s : Shared}
theorem issub_str_nested {k : Value} {dep : Int} {tk : Tok} {Q : Fin → Shared → Prop} (hk : k = .int dep tk) (hq : Q (.done (.ret (.bool true))) s) :
    wpAny (model prog w) A (Builtin.«issubclass.nested» ⟨[.type "str", .type "str", k], []⟩) Q E s := by
  subst hk
  have hm := F.isi_meta_str
  have hself := F.sub_str_str
  repeat (any_goals (first | assumption | (rw [if_pos hm]) | (rw [hself]) | wp_step))
theorem issub_tup {a : Addr} {Q : Fin → Shared → Prop} (ha : s.heap.get? a = some (tupO [.type "str", .type "bytes"])) (hq : Q (.done (.ret (.bool true))) s) :
    wpAny (model prog w) A.in1 (Builtin.«issubclass.nested» ⟨[.type "str", .ref a, rawInt 0], []⟩) Q E s := by
  have hT : s.TypeIs (.ref a) "tuple" := ⟨_, ha, rfl⟩
  have hs := F.sub_tuple_tuple
  repeat (any_goals (first | assumption | wp_step))
  refine codeAny_call_builtin (id := "issubclass.nested") (by decide +kernel) F.entry_issubclass_nested ?_
  refine wpAny_of_eq (show _ = pure () from by kernel_rfl) ?_
  refine issub_str_nested (k := rawInt (0 + 1)) rfl ?_
  repeat (any_goals (first | assumption | wp_step))
theorem issub {a : Addr} {Q : Value → Shared → Prop} (ha : s.heap.get? a = some (tupO [.type "str", .type "bytes"])) (hq : Q (.bool true) s) :
    wpAny (model prog w) A (call (.builtin "issubclass") [.type "str", .ref a]) Q E s :=
  call_issubclass (S := fun _ R s => s.heap.get? a = some (tupO [.type "str", .type "bytes"]) ∧ R (.ok (.ret (.bool true))) s) (fun _ _ _ _ _ hs => issubclass_outer (issub_tup hs.1 hs.2)) ⟨ha, hq⟩
end

theorem fspath_does {w : World} {x : Str} {t : Tok} : Does w 1 101 [.str x t] (fun _ => True) (fun s v _ => v = .str x t) := by
  unfold Does
  k_fill
  intro A s E Q W r _ h
  refine' enter [("path", .str x t)] (upd (fun _ => none) "path" (.str x t)) (fun _ => none) W r.room ?ho ?hc ?hb ?hk ?h1 ?h2 ?h3 ?hm ?hcm ?_
  walk_at "ent"
  intro L s₁ O I
  walk_at "w"
  refine call_type_of (typeIs_str _ _ _) (by decide) ?_
  walk_at "w"
  refine newT (by assumption) (by simp) ?_
  intro a _ _ I2
  walk_at "w"
  dsimp only [List.nil_append, List.cons_append]
  refine issub (I2.get (.head _)).ob ?_
  walk_at "w"
  refine split_bool (fun _ => ?_) (fun q => nomatch q)
  walk_at "w"
  exact h _ _ (In.ks (by assumption)) rfl

theorem get_sep_does {w : World} {x : Str} {t : Tok} : Does w 1 115 [.str x t] (fun _ => True) (fun s v _ => ∃ t, v = .str "/" t) := by
  unfold Does
  k_fill
  intro A s E Q W r _ h
  refine' enter [("path", .str x t)] (upd (fun _ => none) "path" (.str x t)) (fun _ => none) W r.room ?ho ?hc ?hb ?hk ?h1 ?h2 ?h3 ?hm ?hcm ?_
  walk_at "ent"
  intro L s₁ O I
  walk_at "w"
  refine IsiPair.str_bytes ?_
  have I2 := I.kp (Keeps.tok (t := s₁.toks + 1))
  generalize ({ s₁ with toks := s₁.toks + 1 } : Shared) = s₂ at I2 ⊢
  walk_at "w"
  refine split_bool (fun q => nomatch q) (fun _ => ?_)
  walk_at "w"
  exact h _ _ (In.ks (by assumption)) ⟨_, rfl⟩

/-- where the last slash stands, one behind -/
def cut (x : Str) : Int := Txt.rfind x "/" + 1
theorem basename_does {w : World} {x : Str} {t : Tok} (hb : x.length ≤ 100000) : Does w 2 136 [.str x t] (fun _ => True) (fun s v _ => ∃ t, v = .str (Txt.slice x (some (cut x)) none) t) := by
  unfold Does
  k_fill
  intro A s E Q W r _ h
  refine' enter [("p", .str x t)] (upd (fun _ => none) "p" (.str x t)) (fun _ => none) W r.room ?ho ?hc ?hb ?hk ?h1 ?h2 ?h3 ?hm ?hcm ?_
  walk_at "ent"
  intro L s₁ O I
  walk_at "w"
  refine Does.use (fspath_does) (by assumption) r.deeper (by decide) trivial ?_
  rintro _ _ _ rfl
  walk_at "w"
  refine Does.use (get_sep_does) (by assumption) r.deeper (by decide) trivial ?_
  rintro _ _ _ ⟨_, rfl⟩
  walk_at "w"
  refine slFrom (by assumption) (.head _) hb ?_
  intro _ _ _
  exact h _ _ (In.ks (by assumption)) ⟨_, rfl⟩

/-- split's two parts -/
def headOf (x : Str) : Str :=
  let h := Txt.slice x none (some (cut x))
  if h.length ≠ 0 ∧ h ≠ Txt.mul "/" h.length then Txt.rstripChars h "/" else h
def tailOf (x : Str) : Str := Txt.slice x (some (cut x)) none

theorem split_does {w : World} {x : Str} {t : Tok} (hb : x.length ≤ 100000) : Does w 2 129 [.str x t] (fun _ => True)
    (fun s v s' => ∃ a t u, v = .ref a ∧ s'.heap.get? a = some (tupO [.str (headOf x) t, .str (tailOf x) u])) := by
  unfold Does
  k_fill
  intro A s E Q W r _ h
  refine' enter [("p", .str x t)] (upd (fun _ => none) "p" (.str x t)) (fun _ => none) W r.room ?ho ?hc ?hb ?hk ?h1 ?h2 ?h3 ?hm ?hcm ?_
  walk_at "ent"
  intro L s₁ O I
  walk_at "w"
  refine Does.use (fspath_does) (by assumption) r.deeper (by decide) trivial ?_
  rintro _ _ _ rfl
  walk_at "w"
  refine Does.use (get_sep_does) (by assumption) r.deeper (by decide) trivial ?_
  rintro _ _ _ ⟨_, rfl⟩
  walk_at "w"
  refine slTo (by assumption) (.head _) hb ?_
  intro _ _ _
  walk_at "w"
  refine slFrom (by assumption) (.head _) hb ?_
  intro _ _ _
  walk_at "w"
  refine newT (by assumption) (by simp) ?_
  intro _ _ _ _
  refine asg2s O (by assumption) r.deeper.hh (.head _) ?_ rfl rfl
  intro _ _
  walk_at "w"
  have hl : (Txt.slice x none (some (Txt.rfind x "/" + 1))).length ≤ 100000 := Nat.le_trans (Txt.slice_le x _ _) hb
  have hh : headOf x = (if (Txt.slice x none (some (Txt.rfind x "/" + 1))).length ≠ 0 ∧ Txt.slice x none (some (Txt.rfind x "/" + 1)) ≠ Txt.mul "/" (Txt.slice x none (some (Txt.rfind x "/" + 1))).length then Txt.rstripChars (Txt.slice x none (some (Txt.rfind x "/" + 1))) "/" else Txt.slice x none (some (Txt.rfind x "/" + 1))) := rfl
  have ht : tailOf x = Txt.slice x (some (Txt.rfind x "/" + 1)) none := rfl
  generalize Txt.slice x none (some (Txt.rfind x "/" + 1)) = H at *
  rw [← ht] at *
  generalize tailOf x = T at *
  refine truthyS (by assumption) hl ?_
  intro _ _
  refine split_dec (fun q1 => ?_) (fun q1 => ?_)
  · walk_at "w"
    refine mulS (by assumption) (by decide) (by omega) (by omega) ?_
    intro _ _ _
    walk_at "w"
    by_cases q2 : H = Txt.mul "/" H.length
    · rw [if_neg (by simp [← q2])]
      walk_at "w"
      refine split_bool (fun q => nomatch q) (fun _ => ?_)
      walk_at "w"
      refine newT (by assumption) (by simp) ?_
      intro _ _ _ I9
      have e := (I9.get (.head _)).ob
      exact h _ _ I9.ks ⟨_, _, _, rfl, by rw [hh, if_neg (fun q => q.2 q2)]; exact e⟩
    · rw [if_pos (by simp [q2])]
      walk_at "w"
      refine split_bool (fun _ => ?_) (fun q => nomatch q)
      walk_at "w"
      refine newT (by assumption) (by simp) ?_
      intro _ _ _ I9
      have e := (I9.get (.head _)).ob
      exact h _ _ I9.ks ⟨_, _, _, rfl, by rw [hh, if_pos ⟨q1, q2⟩]; exact e⟩
  · walk_at "w"
    refine split_bool (fun q => nomatch q) (fun _ => ?_)
    walk_at "w"
    refine newT (by assumption) (by simp) ?_
    intro _ _ _ I9
    have e := (I9.get (.head _)).ob
    exact h _ _ I9.ks ⟨_, _, _, rfl, by rw [hh, if_neg (fun q => q1 q.1)]; exact e⟩

/-! _law_told -/
def toldStep (st : List Str × List Str) (row : Str) : List Str × List Str :=
  let names := sl st.2 none (some (blanks row)) ++ [Txt.lstripChars row " "]
  (st.1 ++ ["/" ++ Txt.join "/" names], names)
def toldAll (rows : List Str) : List Str × List Str := rows.foldl toldStep ([], [])
def told (x : Str) : List Str := (toldAll (Txt.split x "\n")).1

theorem split_len (x y : Str) : (Txt.split x y).length ≤ x.length + 2 := by
  unfold Txt.split
  split
  · simp
  · split
    · simp
    · rw [length_partsBetween]
      have := StrLaws.occ_length_le x y 0 x.length (x.length + 1)
      omega
theorem sl_sub {α : Type} (xs : List α) (lo hi : Option Int) : ∀ y ∈ sl xs lo hi, y ∈ xs := fun y hy => List.mem_of_mem_drop (List.mem_of_mem_take hy)
theorem sl_len {α : Type} (xs : List α) (lo hi : Option Int) : (sl xs lo hi).length ≤ xs.length := by
  unfold sl
  exact Nat.le_trans (List.length_take_le' ..) (by simp)
theorem told_short {B : Nat} : ∀ (rows : List Str) (st : List Str × List Str), (∀ r ∈ rows, r.length ≤ B) → (∀ y ∈ st.2, y.length ≤ B) →
    (∀ y ∈ (rows.foldl toldStep st).2, y.length ≤ B) ∧ (rows.foldl toldStep st).2.length ≤ st.2.length + rows.length ∧ (rows.foldl toldStep st).1.length = st.1.length + rows.length
  | [], st, _, h => ⟨h, by simp, by simp⟩
  | r :: rows, st, hr, h => by
    have ih := told_short rows (toldStep st r) (fun q hq => hr q (.tail _ hq)) (fun y hy => by
      rcases List.mem_append.mp hy with hy | hy
      · exact h y (sl_sub _ _ _ y hy)
      · rw [List.mem_singleton.mp hy]; exact Nat.le_trans (len_lstripChars r " ") (hr r (.head _)))
    have h2 : (toldStep st r).2.length ≤ st.2.length + 1 := by
      simp only [toldStep, List.length_append, List.length_singleton]
      have := sl_len st.2 none (some (blanks r))
      omega
    have h3 : (toldStep st r).1.length = st.1.length + 1 := by simp [toldStep]
    simp only [List.foldl_cons, List.length_cons]
    refine ⟨ih.1, ?_, ?_⟩
    · have := ih.2.1; omega
    · have := ih.2.2; omega
theorem toldAll_snoc {rows : List Str} {i : Nat} {row : Str} (h : rows[i]? = some row) : toldAll (rows.take (i + 1)) = toldStep (toldAll (rows.take i)) row := by
  unfold toldAll
  rw [List.take_add_one, h]
  simp
theorem joinOk_of {sep : Str} {xs : List Str} {B : Nat} (hB : ∀ y ∈ xs, y.length ≤ B) (h : xs.length * B + xs.length * sep.length ≤ 16777216) : JoinOk sep xs = true := by
  unfold JoinOk
  rw [StrLaws.joinFits hB h]; rfl

theorem join_short {sep : Str} {xs : List Str} (h1 : sep.length = 1) (hB : ∀ y ∈ xs, y.length ≤ 200) (hl : xs.length ≤ 300) : JoinOk sep xs = true ∧ (Txt.join sep xs).length ≤ 90000 := by
  refine ⟨joinOk_of hB (by rw [h1]; omega), ?_⟩
  have h2 := StrLaws.join_length_le sep xs
  have h3 := StrLaws.sumLen_le xs hB
  rw [h1] at h2
  have e : Txt.join sep xs = Str.join sep xs := StrLaws.glued_eq_join sep xs
  rw [e]
  omega

theorem told_does {w : World} {x : Str} {t : Tok} (hb : x.length ≤ 200) : Does w 2 179 [.str x t] (fun _ => True) (fun s v s' => ∃ a, v = .ref a ∧ Is s'.heap a (.tl (told x))) := by
  unfold Does
  k_fill
  intro A s E Q W r _ h
  refine' enter [("outline", .str x t)] (upd (fun _ => none) "outline" (.str x t)) (fun _ => none) W r.room ?ho ?hc ?hb ?hk ?h1 ?h2 ?h3 ?hm ?hcm ?_
  walk_at "ent"
  intro L s₁ O I
  walk_at "w"
  refine newL (l := []) (by assumption) rfl ?_
  intro a _ na _
  walk_at "w"
  refine newL (l := []) (by assumption) rfl ?_
  intro b _ nb _
  walk_at "w"
  refine splitS (by assumption) rfl (by omega) ?_
  intro c _ nc _
  have hrows : ∀ q ∈ Txt.split x "\n", q.length ≤ 200 := fun q hq => Nat.le_trans (part_short hq) hb
  have hlen : (Txt.split x "\n").length ≤ 202 := Nat.le_trans (split_len x "\n") (by omega)
  generalize hR : Txt.split x "\n" = rows at *
  refine for_lst (k := .tl rows) (fun i m cm N => ∃ b, N = [(c, .tl rows), (b, .tl (toldAll (rows.take i)).2), (a, .tl (toldAll (rows.take i)).1)] ∧ m "paths" = some (.ref a) ∧ m "names" = some (.ref b) ∧ b ≠ a) O r.deeper.hh (by assumption) rfl
    ⟨b, rfl, rfl, rfl, fun q => nb.2 _ (.head _) q.symm⟩ ?_ rfl ?_ ?_
  · rintro i m cm N ⟨b, rfl, _⟩
    exact ⟨.head _, by simp [Kd.isL]⟩
  · rintro i _ m' cm' N' L' s' ⟨row, t, hrow, rfl⟩ ⟨b, rfl, hp, hn, hba⟩ hL I'
    have hrl : row.length ≤ 100000 := Nat.le_trans (hrows row (List.mem_of_getElem? hrow)) (by decide)
    have hst := told_short (B := 200) (rows.take i) ([], []) (fun q hq => hrows q (List.mem_of_mem_take hq)) (by simp)
    have hsn := toldAll_snoc hrow
    have hil : (rows.take i).length ≤ 202 := Nat.le_trans (List.length_take_le' ..) hlen
    change (∀ y ∈ (toldAll (rows.take i)).2, _) ∧ (toldAll (rows.take i)).2.length ≤ _ ∧ (toldAll (rows.take i)).1.length = _ at hst
    generalize toldAll (rows.take i) = st at *
    obtain ⟨P, M⟩ := st
    dsimp only at *
    obtain ⟨hM, hMl, hPl⟩ := hst
    simp only [List.length_nil, Nat.zero_add] at hMl hPl
    have hM' : M.length ≤ 202 := by omega
    have hP' : P.length ≤ 202 := by omega
    have hsl := sl_len M none (some (blanks row))
    have hls := len_lstripChars row " "
    walk_at "w"
    refine Does.use (blanks_does hrl) (by assumption) r.deeper (by decide) trivial ?_
    rintro _ _ _ ⟨_, rfl⟩
    walk_at "w"
    refine slT (by assumption) (.head _) (.tail _ (.tail _ (.head _))) .none (.int _ _) (by omega) ?_
    intro c1 _ n1 _
    walk_at "w"
    refine newL (l := [(Txt.lstripChars row " ", _)]) (by assumption) rfl ?_
    intro c2 _ n2 _
    refine catL (by assumption) (.tail _ (.head _)) (.head _) (by simp; omega) ?_
    intro c3 _ n3 I3
    have hc3 : c3 ≠ a := fun q => n3.2 (a, .tl P) (.tail _ (.tail _ (.tail _ (.tail _ (.tail _ (.head _)))))) q.symm
    have I4 := I3.fewer (N' := [(c3, .tl (sl M none (some (blanks row)) ++ [Txt.lstripChars row " "])), (c, .tl rows), (a, .tl P)] ++ L')
      (by intro p hp; simp only [List.cons_append, List.nil_append, List.mem_cons] at hp ⊢; rcases hp with h | h | h | h <;> simp [h])
    clear I3
    walk_at "w"
    refine getAppend (by assumption) (.tail _ (.tail _ (.head _))) ?_
    walk_at "w"
    have hM2 : ∀ y ∈ sl M none (some (blanks row)) ++ [Txt.lstripChars row " "], y.length ≤ 200 := fun y hy => by
      rcases List.mem_append.mp hy with hy | hy
      · exact hM y (sl_sub _ _ _ y hy)
      · rw [List.mem_singleton.mp hy]; exact Nat.le_trans hls (hrows row (List.mem_of_getElem? hrow))
    have hM3 : (sl M none (some (blanks row)) ++ [Txt.lstripChars row " "]).length ≤ 203 := by simp; omega
    generalize hM4 : sl M none (some (blanks row)) ++ [Txt.lstripChars row " "] = M2 at *
    have hj := join_short (sep := "/") rfl hM2 (by omega)
    refine joinS (by assumption) (.head _) hj.1 ?_
    intro _ _ _
    refine addS (by assumption) (by have : (Str.ofString "/").length = 1 := rfl; have := hj.2; omega) ?_
    intro _ _ _
    walk_at "w"
    dsimp only [List.nil_append, List.cons_append]
    refine appendL (N' := [(c, .tl rows), (c3, .tl M2), (a, .tl (P ++ ["/" ++ Txt.join "/" M2]))] ++ L') (by assumption) (.tail _ (.tail _ (.head _))) na.1 (by omega) ?_ ?_
    · intro p hp
      simp only [List.cons_append, List.nil_append, List.mem_cons] at hp ⊢
      rcases hp with rfl | rfl | rfl | h
      · right; exact ⟨by simp, fun q => nc.2 _ (.tail _ (.head _)) q.symm⟩
      · right; exact ⟨by simp, hc3⟩
      · left; rfl
      · right; exact ⟨by simp [h], hL _ h (a, _) (.tail _ (.tail _ (.head _)))⟩
    intro s9 I9
    walk_at "w"
    refine ⟨upd (upd m' "row" (.str row t)) "names" (.ref c3), cm', _, ⟨c3, ?_, hp, rfl, hc3⟩, I9⟩
    rw [hsn]
    simp only [toldStep, hM4]
  · rintro m' cm' N' s' ⟨b, rfl, hp, hn, hba⟩ I'
    walk_at "w"
    refine h _ _ I'.ks ⟨a, rfl, ?_⟩
    have := I'.get (.tail _ (.tail _ (.head _)))
    simpa [told, hR, Kd.len, List.take_length] using this

/-! _dedent -/
def cutRow (k : Nat) (l : Str) : Str := Txt.slice l (some (k : Int)) none
def dedented (k : Nat) (x : Str) : Str := Txt.join "\n" ((Txt.split x "\n").map (cutRow k))

def halfCut (k : Nat) (rows : List Str) (j : Nat) : List Str := (rows.take j).map (cutRow k) ++ rows.drop j
theorem halfCut_len (k : Nat) (rows : List Str) (j : Nat) : (halfCut k rows j).length = rows.length := by
  simp [halfCut]; omega
theorem halfCut_get {k : Nat} {rows : List Str} {j : Nat} (h : j < rows.length) : (halfCut k rows j)[j]? = rows[j]? := by
  rw [halfCut, List.getElem?_append_right (by simp; omega)]
  simp; congr 1; omega
theorem halfCut_set {k : Nat} {rows : List Str} {j : Nat} {l : Str} (h : rows[j]? = some l) : (halfCut k rows j).set j (cutRow k l) = halfCut k rows (j + 1) := by
  have hlt : j < rows.length := (List.getElem?_eq_some_iff.mp h).1
  have hd : rows.drop j = l :: rows.drop (j + 1) := by
    rw [List.drop_eq_getElem_cons hlt]; congr 1; exact (List.getElem?_eq_some_iff.mp h).2
  unfold halfCut
  rw [List.take_add_one, h, List.set_append_right _ _ (by simp; omega), hd]
  have : j - (List.map (cutRow k) (List.take j rows)).length = 0 := by simp; omega
  rw [this]
  simp

theorem dedent_does {w : World} {x z : Str} {t : Tok} {k c : Nat} (hb : x.length ≤ 200) (hz : (Txt.split x "\n")[0]? = some z) (hk : z.cps[k]? = some c) (hc : c ≠ 32) (hl : ∀ j, j < k → z.cps[j]? = some 32) :
    Does w 1 28 [.str x t] (fun _ => True) (fun s v s' => ∃ t, v = .str (dedented k x) t) := by
  unfold Does
  k_fill
  intro A s E Q W r _ h
  refine' enter [("text", .str x t)] (upd (fun _ => none) "text" (.str x t)) (fun _ => none) W r.room ?ho ?hc ?hb ?hk ?h1 ?h2 ?h3 ?hm ?hcm ?_
  walk_at "ent"
  intro L s₁ O I
  walk_at "w"
  refine splitS (by assumption) rfl (by omega) ?_
  intro a _ na _
  have hrows : ∀ q ∈ Txt.split x "\n", q.length ≤ 200 := fun q hq => Nat.le_trans (part_short hq) hb
  have hlen : (Txt.split x "\n").length ≤ 202 := Nat.le_trans (split_len x "\n") (by omega)
  have hD : dedented k x = Txt.join "\n" ((Txt.split x "\n").map (cutRow k)) := rfl
  generalize Txt.split x "\n" = rows at *
  walk_at "w"
  refine itL (by assumption) (.head _) (by decide) (by omega) hz ?_
  intro _
  walk_at "w"
  refine for_enum_str (fun i m cm N => i ≤ k ∧ N = [(a, .tl rows)] ∧ m "lines" = some (.ref a)) O r.deeper.hh (by assumption) ⟨Nat.zero_le _, rfl, rfl⟩ ?_ rfl rfl ?_ ?_
  · rintro i m cm N ⟨_, rfl, _⟩
    simp [Kd.isL]
  · rintro i c' u t m' cm' N' L' s' hc' ⟨hik, rfl, hm⟩ hL I'
    walk_at "w"
    by_cases hc32 : c' = 32
    · subst hc32
      rw [if_neg (by decide)]
      walk_at "w"
      refine TurnEnd.go (N := [(a, .tl rows)]) (by assumption) ?_
      refine ⟨Nat.lt_of_le_of_ne hik fun q => ?_, rfl, hm⟩
      rw [q, hk] at hc'
      exact hc (Option.some.inj hc')
    · have hik' : i = k := by
        refine Nat.le_antisymm hik (Nat.le_of_not_lt fun q => ?_)
        rw [hl i q] at hc'
        exact hc32 (Option.some.inj hc').symm
      subst hik'
      rw [if_pos (by simp only [Bool.not_eq_true', decide_eq_false_iff_not]; intro q; injection q with q; injection q with q; injection q with q; exact hc32 q)]
      rename_i I1
      have I2 := (I1.fewer (N' := [(a, .tl rows)]) (by intro p hp; exact List.mem_append.mpr (.inl hp))).wide
      clear I1
      walk_at "w"
      refine for_enum_lst (n := rows.length) (fun j m cm N => j ≤ rows.length ∧ N = [(a, .tw (halfCut i rows j))] ∧ m "lines" = some (.ref a) ∧ m "i" = some (.int i t)) (fun j _ => .tw (halfCut i rows j)) O r.deeper.hh I2 ⟨Nat.zero_le _, by simp [halfCut], hm, rfl⟩ ?_ rfl rfl ?_ ?_
      · rintro j m cm N ⟨_, rfl, _⟩
        exact ⟨.head _, rfl, halfCut_len _ _ _, by simp [Kd.isL]⟩
      · rintro j v t2 m2 cm2 N2 L2 s2 hjn ⟨l, t3, hl3, rfl⟩ ⟨hj, rfl, hm2, hi2⟩ hL2 I2
        rw [halfCut_get hjn] at hl3
        have hll := hrows l (List.mem_of_getElem? hl3)
        walk_at "w"
        refine slFrom (by assumption) (.head _) (by omega) ?_
        intro _ _ I4
        walk_at "w"
        refine setL (x := cutRow i l) (N' := [(a, .tw (halfCut i rows (j + 1)))] ++ L2) (by assumption) (.tail _ (.head _)) na.1 (by rw [halfCut_len]; omega) (by rw [halfCut_len]; exact hjn) ?_ ?_
        · intro p hp
          rcases List.mem_append.mp hp with hp | hp
          · left; rw [List.mem_singleton.mp hp, halfCut_set hl3]
          · right; exact ⟨List.mem_cons_of_mem _ (List.mem_cons_of_mem _ hp), hL2 p hp (a, _) (.head _)⟩
        intro s9 I9
        walk_at "w"
        refine TurnEnd.go I9 ?_
        exact ⟨hjn, rfl, hm2, hi2⟩
      · rintro m2 cm2 N2 s2 ⟨_, rfl, hm2, _⟩ I2
        walk_at "w"
        refine joinW (by assumption) (.head _) ?_ ?_
        · refine (join_short rfl (fun y hy => ?_) (by rw [halfCut_len]; omega)).1
          simp only [halfCut, List.take_length, List.drop_length, List.append_nil] at hy
          obtain ⟨q, hq, rfl⟩ := List.mem_map.mp hy
          exact Nat.le_trans (Txt.slice_le _ _ _) (hrows q hq)
        intro _ _ I9
        have e : Txt.join "\n" (halfCut i rows rows.length) = dedented i x := by rw [hD]; simp [halfCut]
        rw [e]
        exact h _ _ I9.ks ⟨_, rfl⟩
  · rintro m' cm' N' s' ⟨q, _⟩ _
    exact absurd ((Array.getElem?_eq_some_iff.mp hk).1) (by omega)

/-! texts as lists of signs -/
def cs (x : Str) : List Nat := x.cps.toList
def ofL (l : List Nat) : Str := ⟨l.toArray⟩
theorem cs_ofL (l : List Nat) : cs (ofL l) = l := rfl
theorem cs_inj {x y : Str} (h : cs x = cs y) : x = y := by
  obtain ⟨⟨x⟩⟩ := x; obtain ⟨⟨y⟩⟩ := y
  exact congrArg (fun l => (⟨⟨l⟩⟩ : Str)) h
theorem ofL_cs (x : Str) : ofL (cs x) = x := cs_inj rfl
theorem cs_append (x y : Str) : cs (x ++ y) = cs x ++ cs y := by
  show (x.cps ++ y.cps).toList = _
  simp [cs]
theorem cs_length (x : Str) : (cs x).length = x.length := rfl
theorem cs_from {x : Str} {k : Nat} (h : k ≤ x.length) : cs (Txt.slice x (some (k : Int)) none) = (cs x).drop k := by
  rw [slice_from_eq (b := x.length) (by omega) (by omega) rfl]
  show ((cs x).drop (k : Int).toNat).take ((x.length : Int) - k).toNat = _
  rw [List.take_of_length_le (by simp [cs_length])]
  simp
theorem cs_to {x : Str} {k : Nat} (h : k ≤ x.length) : cs (Txt.slice x none (some (k : Int))) = (cs x).take k := by
  have := eq_of_beq (slice_closes_to (x := x) (j := (k : Int)) ⟨by omega, by show (k : Int) ≤ (cs x).length; rw [cs_length]; omega⟩)
  rw [this]
  show ((cs x).drop (0 : Int).toNat).take ((k : Int) - 0).toNat = _
  simp
theorem cs_lstrip (x y : Str) : cs (Txt.lstripChars x y) = (cs x).dropWhile y.cps.contains := by
  unfold Txt.lstripChars
  rw [PyProof.Rows.stripBy_eq]
  show (Builtin.Str.strSub x (stripLo y.cps.contains true x) x.length).cps.toList = _
  rw [StrLaws.strSub_toList]
  show ((cs x).drop ((cs x).takeWhile y.cps.contains).length).take (x.length - ((cs x).takeWhile y.cps.contains).length) = _
  rw [List.take_of_length_le (by simp [cs_length])]
  conv => lhs; arg 2; rw [← List.takeWhile_append_dropWhile (p := y.cps.contains) (l := cs x)]
  rw [List.drop_left]
theorem cs_rstrip (x y : Str) : cs (Txt.rstripChars x y) = ((cs x).reverse.dropWhile y.cps.contains).reverse := by
  unfold Txt.rstripChars
  rw [PyProof.Rows.stripBy_eq]
  show (Builtin.Str.strSub x 0 (x.length - (((cs x).drop 0).reverse.takeWhile y.cps.contains).length)).cps.toList = _
  rw [StrLaws.strSub_toList]
  show ((cs x).drop 0).take (x.length - (((cs x).drop 0).reverse.takeWhile y.cps.contains).length - 0) = _
  simp only [List.drop_zero, Nat.sub_zero]
  have e : (cs x).reverse = (cs x).reverse.takeWhile y.cps.contains ++ (cs x).reverse.dropWhile y.cps.contains := (List.takeWhile_append_dropWhile ..).symm
  have e2 : cs x = ((cs x).reverse.dropWhile y.cps.contains).reverse ++ ((cs x).reverse.takeWhile y.cps.contains).reverse := by
    rw [← List.reverse_append, ← e, List.reverse_reverse]
  have e3 : x.length - ((cs x).reverse.takeWhile y.cps.contains).length = ((cs x).reverse.dropWhile y.cps.contains).reverse.length := by
    have := congrArg List.length e2
    simp only [List.length_append, List.length_reverse, cs_length] at this ⊢
    omega
  rw [e3]
  conv => lhs; arg 2; rw [e2]
  rw [List.take_left]

/-- join over lists -/
def joinL (c : Nat) : List (List Nat) → List Nat
  | [] => []
  | [x] => x
  | x :: y :: r => x ++ c :: joinL c (y :: r)
theorem cs_join (c : Nat) : ∀ xs : List Str, cs (Txt.join ⟨#[c]⟩ xs) = joinL c (xs.map cs) := by
  have key : ∀ xs : List Str, cs (Str.join ⟨#[c]⟩ xs) = joinL c (xs.map cs) := by
    intro xs
    induction xs with
    | nil => rfl
    | cons x r ih =>
      cases r with
      | nil => rfl
      | cons y r =>
        show cs (x ++ ⟨#[c]⟩ ++ Str.join ⟨#[c]⟩ (y :: r)) = _
        rw [cs_append, cs_append, ih]
        show cs x ++ [c] ++ _ = cs x ++ c :: _
        simp
  intro xs
  show cs (Builtin.Str.glued ⟨#[c]⟩ xs) = _
  rw [StrLaws.glued_eq_join]
  exact key xs
theorem joinL_inj {c : Nat} : ∀ {xs ys : List (List Nat)}, xs ≠ [] → ys ≠ [] → (∀ x ∈ xs, c ∉ x) → (∀ y ∈ ys, c ∉ y) → joinL c xs = joinL c ys → xs = ys := by
  have head : ∀ (a b : List Nat) (r t : List Nat), c ∉ a → c ∉ b → a ++ c :: r = b ++ c :: t → a = b ∧ r = t := by
    intro a
    induction a with
    | nil =>
      intro b r t _ hb h
      cases b with
      | nil => simpa using h
      | cons y b => simp only [List.nil_append, List.cons_append, List.cons.injEq] at h; exact absurd (h.1 ▸ .head _) hb
    | cons x a ih =>
      intro b r t ha hb h
      cases b with
      | nil => simp only [List.nil_append, List.cons_append, List.cons.injEq] at h; exact absurd (h.1 ▸ .head _) ha
      | cons y b =>
        simp only [List.cons_append, List.cons.injEq] at h
        have := ih b r t (fun q => ha (.tail _ q)) (fun q => hb (.tail _ q)) h.2
        exact ⟨by rw [h.1, this.1], this.2⟩
  intro xs
  induction xs with
  | nil => intro ys h; exact absurd rfl h
  | cons x r ih =>
    intro ys _ hy hx hyc h
    cases ys with
    | nil => exact absurd rfl hy
    | cons y t =>
      cases r with
      | nil =>
        cases t with
        | nil => simp only [joinL] at h; rw [h]
        | cons z t =>
          simp only [joinL] at h
          exact absurd (show c ∈ x by rw [h]; simp) (hx x (.head _))
      | cons x' r =>
        cases t with
        | nil =>
          simp only [joinL] at h
          exact absurd (show c ∈ y by rw [← h]; simp) (hyc y (.head _))
        | cons y' t =>
          simp only [joinL] at h
          have := head x y _ _ (hx x (.head _)) (hyc y (.head _)) h
          have h2 := ih (ys := y' :: t) (by simp) (by simp) (fun q hq => hx q (.tail _ hq)) (fun q hq => hyc q (.tail _ hq)) this.2
          rw [this.1, h2]
theorem split_ne_nil (x y : Str) : Txt.split x y ≠ [] := by
  unfold Txt.split
  split
  · simp
  · split
    · simp
    · intro h
      have := congrArg List.length h
      rw [length_partsBetween] at this
      simp at this
theorem split_join {c : Nat} {xs : List Str} (h0 : xs ≠ []) (hx : ∀ x ∈ xs, c ∉ cs x) : Txt.split (Txt.join ⟨#[c]⟩ xs) ⟨#[c]⟩ = xs := by
  have h1 : Str.join ⟨#[c]⟩ (Txt.split (Txt.join ⟨#[c]⟩ xs) ⟨#[c]⟩) = Txt.join ⟨#[c]⟩ xs := StrLaws.join_split _ _
  have h2 := congrArg cs h1
  have e : Str.join ⟨#[c]⟩ (Txt.split (Txt.join ⟨#[c]⟩ xs) ⟨#[c]⟩) = Txt.join ⟨#[c]⟩ (Txt.split (Txt.join ⟨#[c]⟩ xs) ⟨#[c]⟩) := (StrLaws.glued_eq_join _ _).symm
  rw [e, cs_join, cs_join] at h2
  have h3 := joinL_inj (c := c) (by simpa using split_ne_nil _ _) (by simpa using h0) (fun p hp => ?_) (fun p hp => ?_) h2
  · have inj : ∀ l l' : List Str, l.map cs = l'.map cs → l = l' := by
      intro l
      induction l with
      | nil => intro l' h; cases l' with | nil => rfl | cons a b => simp at h
      | cons a b ih => intro l' h; cases l' with | nil => simp at h | cons a' b' => simp only [List.map_cons, List.cons.injEq] at h; rw [cs_inj h.1, ih _ h.2]
    exact inj _ _ h3
  · obtain ⟨q, hq, rfl⟩ := List.mem_map.mp hp
    exact StrLaws.split_free _ _ q hq
  · obtain ⟨q, hq, rfl⟩ := List.mem_map.mp hp
    exact hx q hq
theorem cs_mul (c : Nat) (k : Nat) : cs (Txt.mul ⟨#[c]⟩ (k : Int)) = List.replicate k c := by
  unfold Txt.mul
  by_cases h0 : (k : Int) < 1
  · have : k = 0 := by omega
    rw [if_pos h0, this]; rfl
  · rw [if_neg h0]
    by_cases h1 : ((k : Int) == 1 || (⟨#[c]⟩ : Str).length == 0) = true
    · rw [if_pos h1]
      have : k = 1 := by
        have h2 : (⟨#[c]⟩ : Str).length = 1 := rfl
        simp [h2] at h1; omega
      rw [this]; rfl
    · rw [if_neg h1]
      show ((List.replicate (k : Int).toNat #[c]).foldl (· ++ ·) #[]).toList = _
      have gen : ∀ (n : Nat) (acc : Array Nat), ((List.replicate n #[c]).foldl (· ++ ·) acc).toList = acc.toList ++ List.replicate n c := by
        intro n
        induction n with
        | zero => intro acc; simp
        | succ n ih =>
          intro acc
          rw [List.replicate_succ, List.foldl_cons, ih]
          simp [List.replicate_succ]
      rw [gen]
      simp

/-! names, rows, outlines -/
theorem nl_is : Str.ofString "\n" = ⟨#[10]⟩ := by decide
theorem sp_is : Str.ofString " " = ⟨#[32]⟩ := by decide
theorem sl_is : Str.ofString "/" = ⟨#[47]⟩ := by decide
def Nm (n : Str) : Prop := n ∈ names4
theorem nm_facts : ∀ n ∈ names4, (∃ c r, cs n = c :: r ∧ c ≠ 32 ∧ c ≠ 47) ∧ 10 ∉ cs n ∧ 47 ∉ cs n ∧ n ≠ "." ∧ n.length ≤ 3 := by
  intro n hn
  simp only [names4, List.mem_cons, List.not_mem_nil, or_false] at hn
  rcases hn with rfl | rfl | rfl | rfl
  · exact ⟨⟨97, [], by decide, by decide, by decide⟩, by decide, by decide, by decide, by decide⟩
  · exact ⟨⟨98, [], by decide, by decide, by decide⟩, by decide, by decide, by decide, by decide⟩
  · exact ⟨⟨46, [97], by decide, by decide, by decide⟩, by decide, by decide, by decide, by decide⟩
  · exact ⟨⟨97, [32, 98], by decide, by decide, by decide⟩, by decide, by decide, by decide, by decide⟩
abbrev Rw := Nat × Str
def rowS (p : Rw) : Str := ofL (List.replicate p.1 32 ++ cs p.2)
def text (T : List Rw) : Str := Txt.join "\n" (T.map rowS)
theorem cs_row (p : Rw) : cs (rowS p) = List.replicate p.1 32 ++ cs p.2 := rfl
theorem row_len (p : Rw) : (rowS p).length = p.1 + p.2.length := by
  rw [← cs_length, cs_row]; simp [cs_length]
theorem sp_contains (c : Nat) : (Str.ofString " ").cps.contains c = decide (c = 32) := by
  rw [sp_is]; simp
theorem lstrip_row {p : Rw} (h : Nm p.2) : Txt.lstripChars (rowS p) " " = p.2 := by
  apply cs_inj
  rw [cs_lstrip, cs_row]
  obtain ⟨⟨c, r, e, hc, _⟩, _⟩ := nm_facts _ h
  rw [List.dropWhile_append_of_pos (by intro a ha; rw [sp_contains]; simp [(List.mem_replicate.mp ha).2]), e, List.dropWhile_cons_of_neg (by rw [sp_contains]; simp [hc])]
theorem blanks_row {p : Rw} (h : Nm p.2) : blanks (rowS p) = p.1 := by
  unfold blanks
  rw [lstrip_row h, row_len]; omega
theorem row_inj {p q : Rw} (hp : Nm p.2) (hq : Nm q.2) (h : rowS p = rowS q) : p = q := by
  have h1 := lstrip_row hp
  have h2 := blanks_row hp
  rw [h] at h1 h2
  rw [lstrip_row hq] at h1
  rw [blanks_row hq] at h2
  exact Prod.ext (by omega) h1.symm
theorem row_at {p : Rw} (h : Nm p.2) : ∃ c, (rowS p).cps[p.1]? = some c ∧ c ≠ 32 := by
  obtain ⟨⟨c, r, e, hc, _⟩, _⟩ := nm_facts _ h
  refine ⟨c, ?_, hc⟩
  rw [← Array.getElem?_toList]
  show (cs (rowS p))[p.1]? = _
  rw [cs_row, e, List.getElem?_append_right (by simp)]
  simp
theorem row_before {p : Rw} {j : Nat} (h : j < p.1) : (rowS p).cps[j]? = some 32 := by
  rw [← Array.getElem?_toList]
  show (cs (rowS p))[j]? = _
  rw [cs_row, List.getElem?_append_left (by simpa using h)]
  simp [h]
theorem cut_row {p : Rw} {k : Nat} (h : k ≤ p.1) : cutRow k (rowS p) = rowS (p.1 - k, p.2) := by
  apply cs_inj
  unfold cutRow
  rw [cs_from (by rw [row_len]; omega), cs_row, cs_row, List.drop_append_of_le_length (by simpa using h)]
  simp
theorem mul_row (k : Nat) (p : Rw) : Txt.mul " " (k : Int) ++ rowS p = rowS (k + p.1, p.2) := by
  apply cs_inj
  rw [cs_append, sp_is, cs_mul, cs_row, cs_row, ← List.append_assoc, List.replicate_append_replicate]
theorem row_free {p : Rw} (h : Nm p.2) : 10 ∉ cs (rowS p) := by
  rw [cs_row]
  intro q
  rcases List.mem_append.mp q with q | q
  · exact absurd (List.mem_replicate.mp q).2 (by decide)
  · exact (nm_facts _ h).2.1 q
theorem split_text {T : List Rw} (h0 : T ≠ []) (h : ∀ p ∈ T, Nm p.2) : Txt.split (text T) "\n" = T.map rowS := by
  unfold text
  rw [nl_is]
  refine split_join (by simpa using h0) fun x hx => ?_
  obtain ⟨p, hp, rfl⟩ := List.mem_map.mp hx
  exact row_free (h p hp)
theorem text_len {T : List Rw} {B : Nat} (h : ∀ p ∈ T, (rowS p).length ≤ B) : (text T).length ≤ T.length * B + T.length := by
  unfold text
  have e : Txt.join "\n" (T.map rowS) = Str.join "\n" (T.map rowS) := StrLaws.glued_eq_join _ _
  rw [e]
  have h2 := StrLaws.join_length_le "\n" (T.map rowS)
  have h3 := StrLaws.sumLen_le (B := B) (T.map rowS) (fun y hy => by obtain ⟨p, hp, rfl⟩ := List.mem_map.mp hy; exact h p hp)
  have h4 : (Str.ofString "\n").length = 1 := rfl
  rw [h4] at h2
  simp only [List.length_map] at h2 h3
  omega

/-! the plain edit of an outline -/
def dep (T : List Rw) (i : Nat) : Nat := (T.getD i (0, Str.empty)).1
def nameOf (m : Nat) : Str := names4.getD (m % 4) Str.empty
def goalOf (n d : Nat) : Nat := d / 3 % (n + 1)
def moreOf (n d : Nat) : Nat := d / 3 / (n + 1)
def deepOf (T : List Rw) (g : Nat) : Nat := if g = 0 then 0 else dep T (g - 1) + 1
def endOf (T : List Rw) (f : Nat) : Nat := f + 1 + ((T.drop (f + 1)).takeWhile fun p => decide (dep T f < p.1)).length
def clash (dp : Nat) (n : Str) : List Rw → Bool
  | [] => false
  | p :: r => if p.1 < dp then false else if p = (dp, n) then true else clash dp n r
def putT (dp : Nat) (B : List Rw) : List Rw := B.map fun p => (dp + p.1, p.2)
def headN (B : List Rw) : Str := (B.getD 0 (0, Str.empty)).2
def finT (T : List Rw) (g dp f l : Nat) (B : List Rw) : List Rw :=
  if clash dp (headN B) (T.drop g) = true then T
  else if g ≤ f then T.take g ++ putT dp B ++ (T.take f).drop g ++ T.drop l
  else T.take f ++ (T.take g).drop l ++ putT dp B ++ T.drop g
def blockT (T : List Rw) (f l : Nat) : List Rw := ((T.take l).drop f).map fun p => (p.1 - dep T f, p.2)
def editT (T : List Rw) (d : Nat) : List Rw :=
  let g := goalOf T.length d
  let mo := moreOf T.length d
  let dp := deepOf T g
  if d % 3 = 0 then (if 6 ≤ T.length then T else finT T g dp g g [(0, nameOf mo)])
  else
    let f := mo % T.length
    let l := endOf T f
    if f < g ∧ g ≤ l then T else finT T g dp f l (blockT T f l)

structure OkT (T : List Rw) : Prop where
  ne : T ≠ []
  len : T.length ≤ 6
  nm : ∀ p ∈ T, Nm p.2
  dp : ∀ p ∈ T, p.1 ≤ 5

theorem dep_of {T : List Rw} {i : Nat} {p : Rw} (h : T[i]? = some p) : dep T i = p.1 := by
  unfold dep
  rw [List.getD_eq_getElem?_getD, h]; rfl
theorem nameOf_nm (m : Nat) : Nm (nameOf m) := by
  unfold nameOf Nm
  have h : m % 4 < 4 := Nat.mod_lt _ (by decide)
  have : ∀ k, k < 4 → names4.getD k Str.empty ∈ names4 := by decide
  exact this _ h
theorem takeWhile_get {α : Type} {p : α → Bool} : ∀ {l : List α} {i : Nat} {x : α}, l[i]? = some x → (∀ j, j < i → ∀ y, l[j]? = some y → p y = true) → (p x = true ↔ i < (l.takeWhile p).length)
  | [], i, x, h, _ => by simp at h
  | a :: l, 0, x, h, _ => by
    simp only [List.getElem?_cons_zero, Option.some.injEq] at h
    subst h
    cases hp : p a <;> simp [hp]
  | a :: l, i + 1, x, h, hj => by
    have ha : p a = true := hj 0 (Nat.succ_pos _) a rfl
    rw [List.takeWhile_cons_of_pos ha]
    have := takeWhile_get (p := p) (l := l) (i := i) (x := x) (by simpa using h) (fun j hj' y hy => hj (j + 1) (Nat.succ_lt_succ hj') y (by simpa using hy))
    simpa using this
theorem takeWhile_in {α : Type} {p : α → Bool} {l : List α} {i : Nat} {x : α} (hx : l[i]? = some x) (h : i < (l.takeWhile p).length) : p x = true := by
  have h1 : (l.takeWhile p)[i]? = some x := by
    rw [← hx]
    conv => rhs; rw [← List.takeWhile_append_dropWhile (p := p) (l := l)]
    rw [List.getElem?_append_left h]
  exact List.all_eq_true.mp (List.all_takeWhile (l := l) (p := p)) x (List.mem_of_getElem? h1)
theorem endOf_le {T : List Rw} {f : Nat} (h : f < T.length) : endOf T f ≤ T.length := by
  unfold endOf
  have := takeWhile_len_le (fun p : Rw => decide (dep T f < p.1)) (T.drop (f + 1))
  simp only [List.length_drop] at this
  omega
theorem endOf_in {T : List Rw} {f j : Nat} {p : Rw} (h1 : f < j) (h2 : j < endOf T f) (h : T[j]? = some p) : dep T f < p.1 := by
  have := takeWhile_in (p := fun p : Rw => decide (dep T f < p.1)) (l := T.drop (f + 1)) (i := j - (f + 1)) (x := p) (by rw [List.getElem?_drop]; rw [← h]; congr 1; omega) (by unfold endOf at h2; omega)
  simpa using this
theorem endOf_step {T : List Rw} {f j : Nat} {p : Rw} (h1 : f < j) (h2 : j ≤ endOf T f) (h : T[j]? = some p) : (dep T f < p.1 ↔ j < endOf T f) := by
  constructor
  · intro hp
    refine Nat.lt_of_le_of_ne h2 fun q => ?_
    have := (takeWhile_get (p := fun p : Rw => decide (dep T f < p.1)) (l := T.drop (f + 1)) (i := j - (f + 1)) (x := p) (by rw [List.getElem?_drop]; rw [← h]; congr 1; omega) (fun k hk y hy => ?_)).mp (by simpa using hp)
    · unfold endOf at q; omega
    · rw [List.getElem?_drop] at hy
      have := endOf_in (T := T) (f := f) (j := f + 1 + k) (by omega) (by omega) hy
      simpa using this
  · exact fun hl => endOf_in h1 hl h

section
variable {K : Frag} {s₀ s : Shared} {env : Env} {m cm : Str → Option Value} {N : List (Addr × Kd)} {M : Model} {A : Around} {E : Value → Shared → Prop}
theorem cutJ {i : Int} {tree : Sem Value} {Q : Value → Shared → Prop} (I : In K s₀ env m cm N s) (h1 : wpAny M A tree (fun v s' => ∃ t, v = .int i t ∧ In K s₀ env m cm N s') E s) (h2 : ∀ t s', In K s₀ env m cm N s' → Q (.int i t) s') : wpAny M A tree Q E s := cutI h1 h2
theorem cutS {x : Str} {tree : Sem Value} {Q : Value → Shared → Prop} (I : In K s₀ env m cm N s) (h1 : wpAny M A tree (fun v s' => ∃ t, v = .str x t ∧ In K s₀ env m cm N s') E s) (h2 : ∀ t s', In K s₀ env m cm N s' → Q (.str x t) s') : wpAny M A tree Q E s :=
  wpAny_mono h1 (fun _ _ ⟨t, e, I⟩ => e ▸ h2 t _ I) fun _ _ e => e
theorem cutE (P : Frag → Shared → Env → Shared → Prop) {tree : Sem Flow} {Q : Flow → Shared → Prop} (I : In K s₀ env m cm N s) (h1 : wpAny M A tree (fun f s' => match f with | .next => P K s₀ env s' | f => Q f s') E s) (h2 : ∀ s', P K s₀ env s' → Q .next s') : wpAny M A tree Q E s := cutF (P := P K s₀ env) h1 h2
end

theorem In.re {K : Frag} {s₀ s : Shared} {env : Env} {m cm : Str → Option Value} {N : List (Addr × Kd)} {b : Addr} {xs ys : List Str} (I : In K s₀ env m cm ((b, .tl xs) :: N) s) (h : xs = ys) : In K s₀ env m cm ((b, .tl ys) :: N) s := h ▸ I
theorem nameOf_get (mo : Nat) : names4[((mo : Int) % 4).toNat]? = some (nameOf mo) := by
  rw [show ((mo : Int) % 4).toNat = mo % 4 by omega]
  unfold nameOf
  have : mo % 4 = 0 ∨ mo % 4 = 1 ∨ mo % 4 = 2 ∨ mo % 4 = 3 := by omega
  rcases this with h | h | h | h <;> rw [h] <;> rfl
theorem row0 (n : Str) : [n] = [((0, n) : Rw)].map rowS := by
  simp only [List.map_cons, List.map_nil]; congr 1
/-- the names of _law_edited's frame -/
structure EM (T : List Rw) (t : Tok) (a : Addr) (g f l : Nat) (m : Str → Option Value) : Prop where
  outline : m "outline" = some (.str (text T) t)
  rows : m "rows" = some (.ref a)
  goal : ∃ t, m "goal" = some (.int (g : Int) t)
  first : ∃ t, m "first" = some (.int (f : Int) t)
  last : ∃ t, m "last" = some (.int (l : Int) t)

theorem sl_nn {α : Type} (xs : List α) (f l : Nat) : sl xs (some (f : Int)) (some (l : Int)) = (xs.take l).drop f := by
  unfold sl
  simp only [Option.elim, clipAt_nat]
  rw [List.drop_take]
  by_cases hf : f ≤ xs.length
  · rw [Nat.min_eq_left hf]
    by_cases hl : l ≤ xs.length
    · rw [Nat.min_eq_left hl]
    · rw [Nat.min_eq_right (by omega), List.take_of_length_le (by simp), List.take_of_length_le (by simp; omega)]
  · have e1 : xs.drop (min f xs.length) = [] := by rw [Nat.min_eq_right (by omega)]; simp
    have e2 : xs.drop f = [] := List.drop_eq_nil_of_le (by omega)
    rw [e1, e2]; simp
theorem sl_n {α : Type} (xs : List α) (f : Nat) : sl xs (some (f : Int)) none = xs.drop f := by
  unfold sl
  simp only [Option.elim, clipAt_nat]
  by_cases hf : f ≤ xs.length
  · rw [Nat.min_eq_left hf, List.take_of_length_le (by simp)]
  · have e1 : xs.drop (min f xs.length) = [] := by rw [Nat.min_eq_right (by omega)]; simp
    have e2 : xs.drop f = [] := List.drop_eq_nil_of_le (by omega)
    rw [e1, e2]; simp
theorem sl_to {α : Type} (xs : List α) (l : Nat) : sl xs none (some (l : Int)) = xs.take l := by
  unfold sl
  simp only [Option.elim, clipAt_nat, List.drop_zero, Nat.sub_zero]
  by_cases hl : l ≤ xs.length
  · rw [Nat.min_eq_left hl]
  · rw [Nat.min_eq_right (by omega), List.take_of_length_le (Nat.le_refl _), List.take_of_length_le (by omega)]
theorem map_td {α β : Type} (g : α → β) (xs : List α) (f l : Nat) : ((xs.map g).take l).drop f = ((xs.take l).drop f).map g := by simp [List.map_take, List.map_drop]

theorem text_ok {T : List Rw} (hl : T.length ≤ 20) (hr : ∀ p ∈ T, (rowS p).length ≤ 100) : JoinOk "\n" (T.map rowS) = true := by
  refine (join_short rfl (fun y hy => ?_) (by simp; omega)).1
  obtain ⟨p, hp, rfl⟩ := List.mem_map.mp hy
  exact Nat.le_trans (hr p hp) (by decide)
theorem dedent_block {Bk : List Rw} {k : Nat} (h0 : Bk ≠ []) (hn : ∀ p ∈ Bk, Nm p.2) (hk : ∀ p ∈ Bk, k ≤ p.1) : dedented k (text Bk) = text (Bk.map fun p => (p.1 - k, p.2)) := by
  unfold dedented
  rw [split_text h0 hn]
  unfold text
  congr 1
  simp only [List.map_map]
  refine List.map_congr_left fun p hp => ?_
  exact cut_row (hk p hp)

local macro_rules | `(tactic| walk_at "mem") => `(tactic| repeat (first | exact List.Mem.head _ | refine List.Mem.tail _ ?_))
/-! _law_edited -/
set_option maxHeartbeats 4000000 in
theorem edited_does {w : World} {T : List Rw} {d : Nat} {t u : Tok} (hT : OkT T) (hd9 : d < 360) : Does w 3 160 [.str (text T) t, .int (d : Int) u] (fun _ => True) (fun _ v _ => ∃ t, v = .str (text (editT T d)) t) := by
  unfold Does
  k_fill
  intro A s E Q W r _ h
  refine' enter [("outline", .str (text T) t), ("draw", .int (d : Int) u)] (upd (upd (fun _ => none) "outline" (.str (text T) t)) "draw" (.int (d : Int) u)) (fun _ => none) W r.room ?ho ?hc ?hb ?hk ?h1 ?h2 ?h3 ?hm ?hcm ?_
  walk_at "ent"
  intro L s₁ O I
  have hrl : ∀ p ∈ T, (rowS p).length ≤ 8 := fun p hp => by rw [row_len]; have := hT.dp p hp; have := (nm_facts _ (hT.nm p hp)).2.2.2.2; omega
  have htl : (text T).length ≤ 100000 := by have := text_len hrl; have := hT.len; omega
  walk_at "w"
  refine splitS (by assumption) rfl htl ?_
  rw [split_text hT.ne hT.nm]
  intro a _ na _
  walk_at "w"
  have hn6 : (T.map rowS).length ≤ 100000 := by have := hT.len; simp; omega
  refine divI (by assumption) (by omega) (by omega) (by decide) (by decide) ?_
  intro _ _ _
  walk_at "w"
  refine lenL (by assumption) (.head _) hn6 ?_
  intro _ _ _
  walk_at "w"
  refine modI (by assumption) (by omega) (by omega) ?_
  have hg : (d : Int) / 3 % (((T.map rowS).length : Int) + 1) = ((goalOf T.length d : Nat) : Int) := by simp [goalOf]
  rw [hg]
  intro _ _ _
  walk_at "w"
  refine divI (by assumption) (by omega) (by omega) (by decide) (by decide) ?_
  intro _ _ _
  walk_at "w"
  refine lenL (by assumption) (.head _) hn6 ?_
  intro _ _ _
  walk_at "w"
  refine divI (by assumption) (by omega) (by omega) (by omega) (by simp; have := hT.len; omega) ?_
  have hmo : (d : Int) / 3 / (((T.map rowS).length : Int) + 1) = ((moreOf T.length d : Nat) : Int) := by simp [moreOf]
  rw [hmo]
  intro _ _ _
  have hgn : goalOf T.length d ≤ T.length := Nat.le_of_lt_succ (Nat.mod_lt _ (Nat.succ_pos _))
  have hE : editT T d = (if d % 3 = 0 then (if 6 ≤ T.length then T else finT T (goalOf T.length d) (deepOf T (goalOf T.length d)) (goalOf T.length d) (goalOf T.length d) [(0, nameOf (moreOf T.length d))])
    else if moreOf T.length d % T.length < goalOf T.length d ∧ goalOf T.length d ≤ endOf T (moreOf T.length d % T.length) then T
      else finT T (goalOf T.length d) (deepOf T (goalOf T.length d)) (moreOf T.length d % T.length) (endOf T (moreOf T.length d % T.length)) (blockT T (moreOf T.length d % T.length) (endOf T (moreOf T.length d % T.length)))) := rfl
  generalize goalOf T.length d = g at *
  generalize moreOf T.length d = mo at *
  walk_at "v"
  rename_i I5
  refine cutJ (i := ((deepOf T g : Nat) : Int)) I5 ?_ ?_
  · refine IfExp_ ?_
    walk_at "v"
    by_cases hg0 : g = 0
    · rw [if_pos (by simp [hg0])]
      walk_at "v"
      exact ⟨_, congrArg (fun z => Value.int z _) (by simp [deepOf, hg0]), by assumption⟩
    · rw [if_neg (by simpa using hg0)]
      obtain ⟨p, hp⟩ : ∃ p, T[g - 1]? = some p := ⟨T[g - 1]'(by omega), List.getElem?_eq_getElem (by omega)⟩
      walk_at "v"
      refine itL (by assumption) (.head _) (by omega) hn6 (x := rowS p) (by rw [List.getElem?_map]; rw [show ((g : Int) - 1).toNat = g - 1 by omega, hp]; rfl) ?_
      intro _
      walk_at "v"
      refine Does.use (blanks_does (Nat.le_trans (hrl p (List.mem_of_getElem? hp)) (by decide))) (by assumption) r.deeper (by decide) trivial ?_
      rintro _ _ _ ⟨_, rfl⟩
      walk_at "v"
      refine ⟨_, congrArg (fun z => Value.int z _) ?_, by assumption⟩
      rw [blanks_row (hT.nm p (List.mem_of_getElem? hp))]
      simp [deepOf, hg0, dep_of hp]
  intro t5 _ _
  walk_at "v"
  rename_i I6
  refine cutE (fun K s₀ env s' => ∃ (f l : Nat) (B : List Rw) (b : Addr) (m' : Str → Option Value), In K s₀ env m' (upd (fun _ => none) "deep" (.int (deepOf T g : Nat) t5)) [(b, .tl (B.map rowS)), (a, .tl (T.map rowS))] s' ∧
    EM T t a g f l m' ∧ m' "block" = some (.ref b) ∧
    editT T d = finT T g (deepOf T g) f l B ∧ B ≠ [] ∧ B.length ≤ 6 ∧ (∀ p ∈ B, Nm p.2 ∧ p.1 ≤ 5) ∧ (∃ n, B[0]? = some (0, n)) ∧ l ≤ T.length ∧ f ≤ l) I6 ?_ ?_
  · refine wpAny_If ?_
    walk_at "v"
    refine modI (by assumption) (by omega) (by decide) ?_
    intro _ _ _
    walk_at "v"
    by_cases hd3 : d % 3 = 0
    · rw [if_pos (by simp; omega)]
      rw [if_pos hd3] at hE
      walk_at "w"
      refine lenL (by assumption) (.head _) hn6 ?_
      intro _ _ _
      walk_at "v"
      by_cases h6 : 6 ≤ T.length
      · rw [if_pos (by simp; omega)]
        rw [if_pos h6] at hE
        walk_at "v"
        rename_i I7
        exact h _ _ I7.ks ⟨_, by rw [hE]⟩
      · rw [if_neg (by simp; omega)]
        rw [if_neg h6] at hE
        walk_at "v"
        refine Does.use (name_does (nameOf mo) (nameOf_get mo)) (by assumption) r.deeper (by decide) trivial ?_
        rintro _ _ _ ⟨_, rfl⟩
        walk_at "v"
        refine newL (l := [(nameOf mo, _)]) (by assumption) rfl ?_
        intro b _ nb _
        walk_at "v"
        rename_i I7
        exact ⟨g, g, [(0, nameOf mo)], b, _, I7.re (row0 (nameOf mo)), ⟨rfl, rfl, ⟨_, rfl⟩, ⟨_, rfl⟩, ⟨_, rfl⟩⟩, rfl, hE, by simp, by simp, by simpa using nameOf_nm mo, ⟨_, rfl⟩, hgn, Nat.le_refl _⟩
    · rw [if_neg (by simp; omega)]
      rw [if_neg hd3] at hE
      walk_at "v"
      refine lenL (by assumption) (.head _) hn6 ?_
      intro _ _ _
      have hpos : 0 < T.length := List.length_pos_iff.mpr hT.ne
      refine modI (by assumption) (by omega) (by simp; omega) ?_
      have hf : (mo : Int) % ((T.map rowS).length : Int) = ((mo % T.length : Nat) : Int) := by simp
      rw [hf]
      intro _ _ _
      have hfl : mo % T.length < T.length := Nat.mod_lt _ hpos
      generalize mo % T.length = f at *
      walk_at "v"
      rename_i I7
      obtain ⟨pf, hpf⟩ : ∃ p, T[f]? = some p := ⟨T[f]'hfl, List.getElem?_eq_getElem hfl⟩
      have hdf := dep_of hpf
      have hrow : ∀ {j : Nat} {p : Rw}, T[j]? = some p → (T.map rowS)[((j : Nat) : Int).toNat]? = some (rowS p) := fun {j p} hp => by
        rw [List.getElem?_map, Int.toNat_natCast, hp]; rfl
      refine cutE (fun K s₀ env s' => ∃ (m' : Str → Option Value), In K s₀ env m' (upd (fun _ => none) "deep" (.int (deepOf T g : Nat) t5)) [(a, .tl (T.map rowS))] s' ∧ EM T t a g f (endOf T f) m') I7 ?_ ?_
      · refine while_inv (fun n m' cm' N' => ∃ l, n = T.length + 1 - l ∧ f < l ∧ l ≤ endOf T f ∧ cm' = upd (fun _ => none) "deep" (.int (deepOf T g : Nat) t5) ∧ N' = [(a, .tl (T.map rowS))] ∧ EM T t a g f l m') I7
          ⟨f + 1, rfl, Nat.lt_succ_self _, by unfold endOf; omega, rfl, rfl, ⟨rfl, rfl, ⟨_, rfl⟩, ⟨_, rfl⟩, ⟨_, rfl⟩⟩⟩ ?_
        rintro n m' _ _ s' ⟨l, rfl, hl1, hl2, rfl, rfl, ⟨e1, e2, ⟨_, e3⟩, ⟨_, e4⟩, ⟨_, e5⟩⟩⟩ I8
        have hle := endOf_le hfl
        walk_at "v"
        refine lenL (by assumption) (.head _) hn6 ?_
        intro _ _ _
        walk_at "v"
        by_cases hln : l < T.length
        · rw [if_pos (by simp; omega)]
          obtain ⟨p, hp⟩ : ∃ p, T[l]? = some p := ⟨T[l]'hln, List.getElem?_eq_getElem hln⟩
          have hstep := endOf_step hl1 hl2 hp
          rw [hdf] at hstep
          walk_at "v"
          refine itL (by assumption) (.head _) (by omega) hn6 (hrow hp) ?_
          intro _
          walk_at "v"
          refine Does.use (blanks_does (Nat.le_trans (hrl p (List.mem_of_getElem? hp)) (by decide))) (by assumption) r.deeper (by decide) trivial ?_
          rintro _ _ _ ⟨_, rfl⟩
          walk_at "v"
          refine itL (by assumption) (.head _) (by omega) hn6 (hrow hpf) ?_
          intro _
          walk_at "v"
          refine Does.use (blanks_does (Nat.le_trans (hrl pf (List.mem_of_getElem? hpf)) (by decide))) (by assumption) r.deeper (by decide) trivial ?_
          rintro _ _ I9 ⟨_, rfl⟩
          walk_at "v"
          rw [blanks_row (hT.nm p (List.mem_of_getElem? hp)), blanks_row (hT.nm pf (List.mem_of_getElem? hpf))]
          by_cases hdp : pf.1 < p.1
          · rw [if_pos (by simpa using hdp)]
            walk_at "v"
            refine split_bool (fun hff => ?_) (fun q => nomatch q)
            walk_at "v"
            rename_i I9
            refine ⟨T.length + 1 - (l + 1), _, _, _, by omega, ?_, I9⟩
            exact ⟨l + 1, rfl, by omega, hstep.mp hdp, rfl, rfl, ⟨e1, e2, ⟨_, e3⟩, ⟨_, e4⟩, ⟨_, rfl⟩⟩⟩
          · rw [if_neg (by simpa using hdp)]
            refine split_bool (fun q => nomatch q) (fun hff => ?_)
            have : l = endOf T f := Nat.le_antisymm hl2 (Nat.le_of_not_lt fun q => hdp (hstep.mpr q))
            exact ⟨_, I9, ⟨e1, e2, ⟨_, e3⟩, ⟨_, e4⟩, ⟨_, this ▸ e5⟩⟩⟩
        · rw [if_neg (by simp; omega)]
          refine split_bool (fun q => nomatch q) (fun hff => ?_)
          have : l = endOf T f := by omega
          rename_i I9
          exact ⟨_, I9, ⟨e1, e2, ⟨_, e3⟩, ⟨_, e4⟩, ⟨_, this ▸ e5⟩⟩⟩
      · rintro s8 ⟨m8, I8, ⟨e1, e2, ⟨_, e3⟩, ⟨_, e4⟩, ⟨_, e5⟩⟩⟩
        have hle := endOf_le hfl
        have hlf : f < endOf T f := by unfold endOf; omega
        have hEq : ¬ (f < g ∧ g ≤ endOf T f) → editT T d = finT T g (deepOf T g) f (endOf T f) (blockT T f (endOf T f)) := fun q => by rw [hE, if_neg q]
        have hEq' : f < g ∧ g ≤ endOf T f → editT T d = T := fun q => by rw [hE, if_pos q]
        clear hE
        have hin : ∀ (j : Nat) (p : Rw), f < j → j < endOf T f → T[j]? = some p → pf.1 < p.1 := fun j p h1 h2 h3 => hdf ▸ endOf_in h1 h2 h3
        generalize endOf T f = l at *
        walk_at "v"
        refine cutE (fun K s₀ env s' => In K s₀ env m8 (upd (fun _ => none) "deep" (.int (deepOf T g : Nat) t5)) [(a, .tl (T.map rowS))] s' ∧ ¬ (f < g ∧ g ≤ l)) I8 ?_ ?_
        · walk_at "w"
          by_cases hfg : f < g
          · rw [if_pos (by simpa using hfg)]
            walk_at "w"
            by_cases hgl : g ≤ l
            · rw [if_pos (by simpa using hgl)]
              walk_at "w"
              exact h _ _ I8.ks ⟨_, by rw [hEq' ⟨hfg, hgl⟩]⟩
            · rw [if_neg (by simpa using hgl)]
              walk_at "w"
              exact ⟨I8, fun q => hgl q.2⟩
          · rw [if_neg (by simpa using hfg)]
            refine split_bool (fun q => nomatch q) (fun hff => ?_)
            walk_at "w"
            exact ⟨I8, fun q => hfg q.1⟩
        rintro s9 ⟨I9, hno⟩
        clear I8
        walk_at "w"
        refine slT (by assumption) (.head _) (.tail _ (.head _)) (.int _ _) (.int _ _) hn6 ?_
        rw [sl_nn, map_td]
        have hB1 : ((T.take l).drop f)[0]? = some pf := by rw [List.getElem?_drop, List.getElem?_take, if_pos (by omega)]; simpa using hpf
        have hB0 : (T.take l).drop f ≠ [] := fun q => by rw [q] at hB1; cases hB1
        have hBs : ∀ p ∈ (T.take l).drop f, p ∈ T := fun p hp => List.mem_of_mem_take (List.mem_of_mem_drop hp)
        have hBl : ((T.take l).drop f).length ≤ 6 := by simp; have := hT.len; omega
        have hBd : ∀ p ∈ (T.take l).drop f, pf.1 ≤ p.1 := by
          intro p hp
          obtain ⟨i, hi⟩ := List.getElem?_of_mem hp
          rw [List.getElem?_drop, List.getElem?_take] at hi
          split at hi
          · rename_i hlt
            by_cases hi0 : i = 0
            · subst hi0
              rw [Nat.add_zero, hpf] at hi
              cases hi; exact Nat.le_refl _
            · exact Nat.le_of_lt (hin _ _ (by omega) hlt hi)
          · cases hi
        have hbk : blockT T f l = ((T.take l).drop f).map (fun p => (p.1 - pf.1, p.2)) := by unfold blockT; rw [hdf]
        generalize (T.take l).drop f = Bk at *
        intro b1 _ nb1 _
        walk_at "v"
        refine joinS (by assumption) (.head _) (text_ok (by omega) (fun p hp => Nat.le_trans (hrl p (hBs p hp)) (by decide))) ?_
        rw [show Txt.join "\n" (Bk.map rowS) = text Bk from rfl]
        intro _ _ _
        walk_at "v"
        obtain ⟨c, hc1, hc2⟩ := row_at (hT.nm pf (List.mem_of_getElem? hpf))
        have hBn : ∀ p ∈ Bk, Nm p.2 := fun p hp => hT.nm p (hBs p hp)
        have htB : (text Bk).length ≤ 200 := by have := text_len (T := Bk) (B := 8) (fun p hp => hrl p (hBs p hp)); omega
        refine Does.use (dedent_does htB (z := rowS pf) (k := pf.1) (c := c) (by rw [split_text hB0 hBn, List.getElem?_map, hB1]; rfl) hc1 hc2 (fun j hj => row_before hj)) (by assumption) r.deeper (by decide) trivial ?_
        rintro _ _ I10 ⟨_, rfl⟩
        rw [dedent_block hB0 hBn hBd, ← hbk]
        have hE1 := hEq hno
        have hb0 : blockT T f l ≠ [] := by rw [hbk]; simpa using hB0
        have hbn : ∀ p ∈ blockT T f l, Nm p.2 ∧ p.1 ≤ 5 := by
          rw [hbk]
          intro p hp
          obtain ⟨q, hq, rfl⟩ := List.mem_map.mp hp
          exact ⟨hBn q hq, Nat.le_trans (Nat.sub_le _ _) (hT.dp q (hBs q hq))⟩
        have hbl : (blockT T f l).length ≤ 6 := by rw [hbk]; simpa using hBl
        have hbh : ∃ n, (blockT T f l)[0]? = some (0, n) := ⟨pf.2, by rw [hbk, List.getElem?_map, hB1]; simp⟩
        generalize blockT T f l = B at *
        have htB2 : (text B).length ≤ 100000 := by
          have := text_len (T := B) (B := 8) (fun p hp => by rw [row_len]; have := (hbn p hp).2; have := (nm_facts _ (hbn p hp).1).2.2.2.2; omega)
          omega
        walk_at "v"
        refine splitS (by assumption) rfl htB2 ?_
        rw [split_text hb0 (fun p hp => (hbn p hp).1)]
        intro b2 _ nb2 I11
        have I12 := I11.fewer (N' := [(b2, .tl (B.map rowS)), (a, .tl (T.map rowS))]) (by intro p hp; simp only [List.mem_cons, List.not_mem_nil, or_false] at hp ⊢; rcases hp with h | h <;> simp [h])
        clear I11
        walk_at "v"
        rename_i I13
        refine ⟨f, l, B, b2, _, I13, ?_, rfl, hE1, hb0, hbl, hbn, hbh, hle, by omega⟩
        exact ⟨e1, e2, ⟨_, e3⟩, ⟨_, e4⟩, ⟨_, e5⟩⟩
  · rintro s9 ⟨f, l, B, b, m9, I9, ⟨e1, e2, ⟨t1, e3⟩, ⟨t2, e4⟩, ⟨t3, e5⟩⟩, e6, hE9, hB0, hBl, hBn, ⟨n0, hB1⟩, hlT, hfl⟩
    have hdp5 : deepOf T g ≤ 6 := by
      unfold deepOf
      split
      · omega
      · have : dep T (g - 1) ≤ 5 := by
          unfold dep
          rw [List.getD_eq_getElem?_getD]
          cases hq : T[g - 1]? with
          | none => simp
          | some p => exact hT.dp p (List.mem_of_getElem? hq)
        omega
    generalize deepOf T g = dp at *
    walk_at "v"
    refine' comp_assign (K := hd.heap_39 w.params) (s₀ := s) (onS fun _ => true) (mapS fun x => Txt.mul " " (dp : Int) ++ x) ?hsw ?hclos ?hcl ?hcell ?hkind ?hnames ?hx ?hy O r.deeper.hh ?_ ?hs
    case hsw => exact rfl
    case hclos => exact rfl
    case hcl => exact fun _ _ h => h
    case hcell => decide
    case hkind => exact rfl
    case hnames => decide
    case hx => exact rfl
    case hy => exact rfl
    case hs => exact fun _ => rfl
    walk_at "v"
    refine ⟨_, _, _, b, .tl (B.map rowS), rfl, I9, .head _, rfl, by show (B.map rowS).length ≤ 100000; rw [List.length_map]; omega, by simp [Kd.isL], ⟨?_, ?_⟩, ?_⟩
    · rintro C i _ s3 m3 E' ⟨x, t, hx, rfl⟩ I3 hv
      exact wpAny_tests_nil ⟨rfl, Keeps.refl' _⟩
    · rintro C i _ s3 m3 E' ⟨x, t, hx, rfl⟩ _ I3 hv
      obtain ⟨p, hp, rfl⟩ := List.mem_map.mp (List.mem_of_getElem? hx)
      have hpb := hBn p hp
      have hml : (Txt.mul " " (dp : Int)).length = dp := by rw [← cs_length, sp_is, cs_mul]; simp
      have hrp : (rowS p).length ≤ 8 := by rw [row_len]; have := (nm_facts _ hpb.1).2.2.2.2; omega
      walk_at "v"
      refine mulS (by assumption) (by decide) (by omega) (by omega) ?_
      intro _ _ _
      walk_at "v"
      refine addS (by assumption) (by omega) ?_
      intro _ _ I5
      exact ⟨⟨_, _, _, rfl, rfl⟩, I5.ks⟩
    · intro D s' vs ys n hV hP hD hf I10
      have I11 := (I10.add (comp_is hV hP hD)).re (ys := (putT dp B).map rowS) (by rw [List.filter_eq_self.mpr (fun _ _ => rfl)]; simp only [putT, List.map_map]; exact List.map_congr_left fun p _ => mul_row dp p)
      have hput : (putT dp B)[0]? = some (dp, n0) := by unfold putT; rw [List.getElem?_map, hB1]; simp
      have hhd : headN B = n0 := by unfold headN; rw [List.getD_eq_getElem?_getD, hB1]; rfl
      have hn0 : Nm n0 := (hBn _ (List.mem_of_getElem? hB1)).1
      have hpl : (putT dp B).length ≤ 6 := by unfold putT; simpa using hBl
      have hpn : ∀ p ∈ putT dp B, Nm p.2 ∧ p.1 ≤ 11 := by
        intro p hp
        obtain ⟨q, hq, rfl⟩ := List.mem_map.mp hp
        exact ⟨(hBn q hq).1, by have := (hBn q hq).2; dsimp only; omega⟩
      have hE10 : editT T d = (if clash dp n0 (T.drop g) = true then T else if g ≤ f then T.take g ++ putT dp B ++ (T.take f).drop g ++ T.drop l else T.take f ++ (T.take g).drop l ++ putT dp B ++ T.drop g) := by rw [hE9]; unfold finT; rw [hhd]
      generalize putT dp B = PT at *
      refine wpAny_execs_cons ?_
      refine cutE (fun K s₀ env s' => clash dp n0 (T.drop g) = false ∧ ∃ m', In K s₀ env m' (upd (fun _ => none) "deep" (.int (dp : Nat) t5)) [(D, .tl (PT.map rowS)), (a, .tl (T.map rowS))] s' ∧ EM T t a g f l m' ∧ m' "put" = some (.ref D)) I11 ?_ ?_
      · walk_at "v"
        refine slT (by assumption) (.head _) (.tail _ (.tail _ (.tail _ (.head _)))) (.int _ _) .none hn6 ?_
        rw [sl_n, ← List.map_drop]
        intro c1 _ nc1 I12
        have I13 := I12.fewer (N' := [(c1, .tl ((T.drop g).map rowS)), (D, .tl (PT.map rowS)), (a, .tl (T.map rowS))]) (by intro p hp; simp only [List.mem_cons, List.not_mem_nil, or_false] at hp ⊢; rcases hp with h | h | h <;> simp [h])
        clear I12
        refine for_lst (k := .tl ((T.drop g).map rowS)) (fun i m cm N => N = [(c1, .tl ((T.drop g).map rowS)), (D, .tl (PT.map rowS)), (a, .tl (T.map rowS))] ∧ cm = upd (fun _ => none) "deep" (.int (dp : Nat) t5) ∧ EM T t a g f l m ∧ m "put" = some (.ref D) ∧
          clash dp n0 (T.drop g) = clash dp n0 ((T.drop g).drop i)) O r.deeper.hh I13 rfl ⟨rfl, rfl, ⟨e1, e2, ⟨_, e3⟩, ⟨_, e4⟩, ⟨_, e5⟩⟩, rfl, rfl⟩ ?_ rfl ?_ ?_
        · rintro i m cm N ⟨rfl, _⟩
          exact ⟨.head _, by simp [Kd.isL]⟩
        · rintro i _ m' _ _ L' s' ⟨row, t6, hrow6, rfl⟩ ⟨rfl, rfl, ⟨f1, f2, ⟨_, f3⟩, ⟨_, f4⟩, ⟨_, f5⟩⟩, f6, hcl⟩ hL I14
          rw [List.getElem?_map, Option.map_eq_some_iff] at hrow6
          obtain ⟨p, hp, rfl⟩ := hrow6
          have hpT : p ∈ T := List.mem_of_mem_drop (List.mem_of_getElem? hp)
          have hdr : (T.drop g).drop i = p :: (T.drop g).drop (i + 1) := by
            have hlt := (List.getElem?_eq_some_iff.mp hp).1
            rw [List.drop_eq_getElem_cons hlt]; congr 1; exact (List.getElem?_eq_some_iff.mp hp).2
          rw [hdr] at hcl
          walk_at "w"
          refine Does.use (blanks_does (Nat.le_trans (hrl p hpT) (by decide))) (by assumption) r.deeper (by decide) trivial ?_
          rintro _ _ I15 ⟨_, rfl⟩
          rw [blanks_row (hT.nm p hpT)]
          walk_at "w"
          by_cases hlt : p.1 < dp
          · rw [if_pos (by simpa using hlt)]
            walk_at "w"
            refine ⟨by rw [hcl]; simp [clash, hlt], _, I15.fewer (N' := [(D, .tl (PT.map rowS)), (a, .tl (T.map rowS))]) (by intro q hq; exact .tail _ (List.mem_append.mpr (.inl hq))), ?_, f6⟩
            exact ⟨f1, f2, ⟨_, f3⟩, ⟨_, f4⟩, ⟨_, f5⟩⟩
          · rw [if_neg (by simpa using hlt)]
            walk_at "w"
            refine itL (by assumption) (.tail _ (.head _)) (by decide) (by rw [List.length_map]; omega) (x := rowS (dp, n0)) (by rw [List.getElem?_map, show (0 : Int).toNat = 0 from rfl, hput]; rfl) ?_
            intro _
            walk_at "w"
            rename_i I16 _
            by_cases heq : p = (dp, n0)
            · rw [if_pos (by simp [heq])]
              walk_at "w"
              refine h _ _ I16.ks ⟨_, congrArg (fun z => Value.str z _) (congrArg text ?_)⟩
              rw [hE10, hcl]
              simp [clash, hlt, heq]
            · have hne : rowS p ≠ rowS (dp, n0) := fun q => heq (row_inj (hT.nm p hpT) hn0 q)
              rw [if_neg (by simpa using hne)]
              walk_at "w"
              refine TurnEnd.go I16 ?_
              refine ⟨rfl, rfl, ⟨f1, f2, ⟨_, f3⟩, ⟨_, f4⟩, ⟨_, f5⟩⟩, f6, ?_⟩
              rw [hcl]; simp [clash, hlt, heq]
        · rintro m' _ _ s' ⟨rfl, rfl, hem, f6, hcl⟩ I14
          refine ⟨?_, _, I14.fewer (by intro p hp; exact .tail _ hp), hem, f6⟩
          have e : (T.drop g).drop (Kd.tl ((T.drop g).map rowS)).len = [] := List.drop_eq_nil_of_le (by simp [Kd.len])
          rw [hcl, e]; rfl
      · rintro s12 ⟨hcl, m12, I12, ⟨f1, f2, ⟨_, f3⟩, ⟨_, f4⟩, ⟨_, f5⟩⟩, f6⟩
        rw [hcl, if_neg (by decide)] at hE10
        have hTl := hT.len
        have hmem : ∀ p, p ∈ T ∨ p ∈ PT → (rowS p).length ≤ 100 := by
          rintro p (hp | hp)
          · exact Nat.le_trans (hrl p hp) (by decide)
          · rw [row_len]; have := (hpn p hp).2; have := (nm_facts _ (hpn p hp).1).2.2.2.2; omega
        walk_at "w"
        by_cases hgf : g ≤ f
        · rw [if_pos (by simpa using hgf)]
          rw [if_pos hgf] at hE10
          have hok : JoinOk "\n" ((editT T d).map rowS) = true := text_ok (by rw [hE10]; simp; omega) (fun p hp => hmem p (by
            rw [hE10] at hp
            simp only [List.mem_append] at hp
            rcases hp with ((hp | hp) | hp) | hp
            · exact .inl (List.mem_of_mem_take hp)
            · exact .inr hp
            · exact .inl (List.mem_of_mem_take (List.mem_of_mem_drop hp))
            · exact .inl (List.mem_of_mem_drop hp)))
          walk_at "w"
          refine slT (by assumption) (.head _) (by walk_at "mem") .none (.int _ _) hn6 ?_
          rw [sl_to, ← List.map_take]
          intro _ _ _ _
          walk_at "w"
          refine catL (by assumption) (by walk_at "mem") (by walk_at "mem") (by simp; omega) ?_
          rw [← List.map_append]
          intro _ _ _ _
          walk_at "w"
          refine slT (by assumption) (.head _) (by walk_at "mem") (.int _ _) (.int _ _) hn6 ?_
          rw [sl_nn, map_td]
          intro _ _ _ _
          refine catL (by assumption) (by walk_at "mem") (by walk_at "mem") (by simp; omega) ?_
          rw [← List.map_append]
          intro _ _ _ _
          walk_at "w"
          refine slT (by assumption) (.head _) (by walk_at "mem") (.int _ _) .none hn6 ?_
          rw [sl_n, ← List.map_drop]
          intro _ _ _ _
          refine catL (by assumption) (by walk_at "mem") (by walk_at "mem") (by simp; omega) ?_
          rw [← List.map_append, ← hE10]
          intro _ _ _ _
          walk_at "w"
          refine joinS (by assumption) (.head _) hok ?_
          intro _ _ I20
          walk_at "w"
          exact h _ _ I20.ks ⟨_, rfl⟩
        · rw [if_neg (by simpa using hgf)]
          rw [if_neg hgf] at hE10
          have hok : JoinOk "\n" ((editT T d).map rowS) = true := text_ok (by rw [hE10]; simp; omega) (fun p hp => hmem p (by
            rw [hE10] at hp
            simp only [List.mem_append] at hp
            rcases hp with ((hp | hp) | hp) | hp
            · exact .inl (List.mem_of_mem_take hp)
            · exact .inl (List.mem_of_mem_take (List.mem_of_mem_drop hp))
            · exact .inr hp
            · exact .inl (List.mem_of_mem_drop hp)))
          walk_at "w"
          refine slT (by assumption) (.head _) (by walk_at "mem") .none (.int _ _) hn6 ?_
          rw [sl_to, ← List.map_take]
          intro _ _ _ _
          walk_at "w"
          refine slT (by assumption) (.head _) (by walk_at "mem") (.int _ _) (.int _ _) hn6 ?_
          rw [sl_nn, map_td]
          intro _ _ _ _
          refine catL (by assumption) (by walk_at "mem") (by walk_at "mem") (by simp; omega) ?_
          rw [← List.map_append]
          intro _ _ _ _
          walk_at "w"
          refine catL (by assumption) (by walk_at "mem") (by walk_at "mem") (by simp; omega) ?_
          rw [← List.map_append]
          intro _ _ _ _
          walk_at "w"
          refine slT (by assumption) (.head _) (by walk_at "mem") (.int _ _) .none hn6 ?_
          rw [sl_n, ← List.map_drop]
          intro _ _ _ _
          refine catL (by assumption) (by walk_at "mem") (by walk_at "mem") (by simp; omega) ?_
          rw [← List.map_append, ← hE10]
          intro _ _ _ _
          walk_at "w"
          refine joinS (by assumption) (.head _) hok ?_
          intro _ _ I20
          walk_at "w"
          exact h _ _ I20.ks ⟨_, rfl⟩

/-! a def with a star: its tuple is laid first -/
theorem enterV {prog : Program} {w : World} {K : Frag} {A : Around} {s : Shared} {E Q : Value → Shared → Prop} {name qual : Str} {params : Arguments} {body : List Stmt} {scope : Scope} {dV kV doc pm cdv ct oc : Value} {an od : Option Addr} {osl : Array (Option Value)} {f : Addr} {args : List Value} (vs : List Value) (binds : Value → List (Str × Value)) (m : Value → Str → Option Value) (cm : Str → Option Value)
    (W : Wd K s.heap) (hroom : A.depth < recursionLimit) (hz : vs.length ≤ 100000)
    (ho : K.lookup f = some ⟨oc, od, .func (fnOf name qual params body scope dV kV doc pm an cdv ct), osl⟩) (hcd : codeIn K cdv qual = true)
    (hbind : bindArgs (fnOf name qual params body scope dV kV doc pm an cdv ct) ⟨args, []⟩ = newTuple vs >>= fun v => pure (binds v))
    (hkind : ∀ v, ((binds v).all fun y => scope.names.lookup y.1 == some .local || scope.names.lookup y.1 == some .cell) = true)
    (hco : scope.isCoroutine = false) (hgen : scope.isGenerator = false) (hk : scope.kind = .function)
    (hm : ∀ L v, bindL (ev scope qual cdv f L).kindOf (binds v) (fun _ => none) = m v) (hcm : ∀ L v, bindC (ev scope qual cdv f L).kindOf (binds v) (fun _ => none) = cm)
    (h : ∀ L a s₁, Own s (ev scope qual cdv f L) → In K s (ev scope qual cdv f L) (m (.ref a)) cm [(a, .ob (tupO vs))] s₁ →
      wpAny (model prog w) (A.deeper (ev scope qual cdv f L)) (execs body (ev scope qual cdv f L)) (fun fl s' => Q (match fl with | .ret v => v | _ => .none) s') (fun _ _ => False) s₁) :
    wpAny (model prog w) A (call (.ref f) args) Q E s := by
  refine wpAny_call (codeAny_call_function (fd := fnOf name qual params body scope dV kV doc pm an cdv ct) hroom (W.X _ _ ho) rfl hco hgen rfl (codeRec_of W.X hcd) ?_)
  rw [hbind]
  refine wpAny_bind (wpAny_newObj_type (wpAny_pure (wpAny_newFunctionEnv_cells hk (kindsX (hkind _) _) fun env he s' x => ?_)) (by show vs.toArray.size ≤ sizeLine; rw [List.size_toArray, sizeLine_eq]; omega))
  subst he
  have kk : ∀ b o, s.heap.get? b = some o → s'.heap.get? b = some o := fun b o e => x.toInCall.keep b o (Heap.get?_push_of_some _ e)
  refine ⟨W.lim.keeps kk, codeAny_func (wpAny_mono (h (s.heap.push (tupO vs)).objs.size s.heap.objs.size s' ⟨Nat.le_trans (Nat.le_of_lt ?_) x.toInCall.fresh, x.apart, x.above, hk⟩ ⟨?_, hm _ _ ▸ x.toInCall.ns, hcm _ _ ▸ x.cell, ?_, W⟩) (fun _ _ y => y) fun _ _ y => y.elim)⟩
  · simp [Heap.push]
  · obtain ⟨h', tk, e, k⟩ := x.toInCall.done
    exact ⟨h', tk, e, fun b o q => by have := kk b o q; rw [e] at this; exact this⟩
  · intro p hp
    rcases List.mem_cons.mp hp with rfl | hp
    · exact ⟨_, x.toInCall.keep _ _ (Heap.get?_push_size _ rfl), rfl, rfl⟩
    · cases hp

/-! a try whose body raises nothing -/
theorem try_ok {prog : Program} {w : World} {A : Around} {E : Value → Shared → Prop} {s : Shared} {env : Env} {body : List Stmt} {h₀ : ExceptHandler} {hs : List ExceptHandler} {pos : Pos} {Q : Flow → Shared → Prop}
    (h : wpAny (model prog w) A (execs body env) Q (fun _ _ => False) s) : wpAny (model prog w) A (exec (.Try body (h₀ :: hs) [] [] pos) env) Q E s :=
  wpAny_Try_except (wpAny_mono h (fun f s₁ hf => by cases f <;> first | exact wpAny_execs_nil hf | exact hf) fun _ _ e => e.elim)

/-! kinds of objects -/
def Kd.cls : Kd → Value | .tl _ => .type "list" | .tw _ => .type "list" | .il _ => .type "list" | .ob o => o.cls
theorem Is.cls {h : Heap} {a : Addr} {k : Kd} {o : Obj} (x : Is h a k) (e : h.get? a = some o) : o.cls = k.cls := by
  obtain ⟨o', e', sh⟩ := x
  rw [e] at e'; cases e'
  cases k with
  | tl xs => obtain ⟨l, n, rfl, _⟩ := sh; rfl
  | tw xs => exact sh.1
  | il ns => obtain ⟨l, n, rfl, _⟩ := sh; rfl
  | ob o' => obtain ⟨rfl, _⟩ := sh; rfl
theorem Is.ne {h : Heap} {a b : Addr} {k : Kd} {o : Obj} (x : Is h a k) (e : h.get? b = some o) (hc : k.cls ≠ o.cls) : a ≠ b := by
  rintro rfl; exact hc (x.cls e).symm

section
variable {K : Frag} {s₀ s : Shared} {env : Env} {m cm : Str → Option Value} {N : List (Addr × Kd)} {prog : Program} {w : World} {A : Around}
/-- a loop over a tuple of one -/
theorem for_one {a : Addr} {v : Value} {y : Str} {py : Pos} {body : List Stmt} {Q : Flow → Shared → Prop} (J : (Str → Option Value) → (Str → Option Value) → List (Addr × Kd) → Prop)
    (O : Own s₀ env) (hh : A.handled = none) (I : In K s₀ env m cm N s) (ha : (a, .ob (tupO [v])) ∈ N) (hN : ∀ p ∈ N, p.2.cls ≠ .type "tuple_iterator") (hy : env.kindOf y = some .local)
    (turn : ∀ L s', In K s₀ env (upd m y v) cm (N ++ L) s' → wpAny (model prog w) A (execs body env) (TurnEnd K s₀ env (fun m' cm' N' => N' = N ∧ J m' cm' N') L Q) (fun _ _ => False) s')
    (done : ∀ m' cm' s', J m' cm' N → In K s₀ env m' cm' N s' → Q .next s') :
    wpAny (model prog w) A (pyIter (.ref a)) (fun it s₂ => codeAny (model prog w) A (.forLoop (.Name y py) it body [] env) (fun r s' => match r with | .ok f => Q f s' | .error e => cameBackBy (model prog w) A env (fun _ _ => False) e s') s₂) (fun _ _ => False) s := by
  have htup : ∀ {s' : Shared} {m' cm' N'}, In K s₀ env m' cm' N' s' → (a, .ob (tupO [v])) ∈ N' → s'.heap.IsTuple a #[v] := fun I h => ⟨_, (I.get h).ob, rfl, _, rfl⟩
  refine wpAny_pyIter_tuple (htup I ha) ?_
  have hfr := I.fresh
  generalize hit : s.heap.objs.size = it at hfr ⊢
  have hI' : ({ s with heap := s.heap.push { cls := .type "tuple_iterator", data := .fields #[.ref a, .int 0 0] } } : Shared).heap.IsTupleIter it a 0 := ⟨_, hit ▸ Heap.get?_push_size _ rfl, rfl, rfl⟩
  have I' := I.kp (s' := { s with heap := s.heap.push { cls := .type "tuple_iterator", data := .fields #[.ref a, .int 0 0] } }) Keeps.push
  generalize ({ s with heap := s.heap.push { cls := .type "tuple_iterator", data := .fields #[.ref a, .int 0 0] } } : Shared) = s₁ at hI' I' ⊢
  refine codeAny_forLoop_any (fun j s' => (j = 1 ∧ In K s₀ env m cm N s' ∧ s'.heap.IsTupleIter it a 0) ∨ (j = 0 ∧ ∃ m' cm', J m' cm' N ∧ In K s₀ env m' cm' N s' ∧ s'.heap.IsTupleIter it a 1)) ?_ 1 (.inl ⟨rfl, I', hI'⟩)
  have hst : ∀ {s' : Shared} {i : Nat}, s'.heap.IsTupleIter it a i → ∀ b ∈ [it], ∃ o, s'.heap.get? b = some o ∧ still o = true := fun hIt b hb => by
    obtain ⟨oi, hoi, hci, hdi⟩ := hIt
    rw [List.mem_singleton.mp hb]; exact ⟨oi, hoi, by simp [still, hdi]⟩
  have hoff : ∀ {s' : Shared} {i : Nat} {m' cm'}, In K s₀ env m' cm' N s' → s'.heap.IsTupleIter it a i → ∀ p ∈ N, p.1 ∉ [it] := fun Ii hIt p hp q => by
    obtain ⟨oi, hoi, hci, hdi⟩ := hIt
    exact Is.ne (Ii.led p hp) hoi (by rw [hci]; exact hN p hp) (List.mem_singleton.mp q)
  have hfr' : ∀ b ∈ [it], s₀.heap.get? b = none := fun b hb => by rw [List.mem_singleton.mp hb]; exact hfr
  rintro j s' (⟨rfl, Ii, hIt⟩ | ⟨rfl, m', cm', hJ, Ii, hIt⟩)
  · refine wpAny_pyNext_tuple_item hIt (htup Ii ha) rfl fun h₁ hIt₁ hs₁ => ?_
    have I₁ := Ii.but (t := s'.toks) hfr' (hst hIt) (hoff Ii hIt) (h' := h₁) fun b o hb e => (hs₁.2 b (fun q => hb (List.mem_singleton.mpr q))).trans e
    obtain ⟨o₁, ho₁, hc₁, hd₁⟩ := id hIt₁
    have hst₁ : still o₁ = true := by simp [still, hd₁]
    have I₂ := I₁.app (L := [(it, .ob o₁)]) fun p hp => by rw [List.mem_singleton.mp hp]; exact ⟨o₁, ho₁, rfl, hst₁⟩
    refine wpAny_pure (wpAny_assign_Name (st O I₂ (fun s₂ I₃ => ?_) hy))
    refine wpAny_mono (turn [(it, .ob o₁)] s₂ I₃) (fun f s₃ hf => ?_) fun _ _ h => h.elim
    have fin : (∃ m' cm' N', (N' = N ∧ J m' cm' N') ∧ In K s₀ env m' cm' (N' ++ [(it, .ob o₁)]) s₃) → ∃ j, j < 1 ∧ ((j = 1 ∧ In K s₀ env m cm N s₃ ∧ s₃.heap.IsTupleIter it a 0) ∨ (j = 0 ∧ ∃ m' cm', J m' cm' N ∧ In K s₀ env m' cm' N s₃ ∧ s₃.heap.IsTupleIter it a 1)) := by
      rintro ⟨m₄, cm₄, N₄, ⟨rfl, hJ₄⟩, I₄⟩
      exact ⟨0, by decide, .inr ⟨rfl, m₄, cm₄, hJ₄, I₄.fewer fun p hp => List.mem_append.mpr (.inl hp), ⟨o₁, (I₄.led (it, .ob o₁) (List.mem_append.mpr (.inr (.head _)))).ob, hc₁, hd₁⟩⟩⟩
    cases f with
    | brk => exact hf
    | ret v => exact hf
    | next => exact fin hf
    | cont => exact fin hf
  · refine wpAny_pyNext_tuple_end hh hIt (htup Ii ha) rfl fun h₁ he₁ => wpAny_execs_nil ?_
    have I₁ := Ii.but (t := s'.toks) hfr' (hst hIt) (hoff Ii hIt) (h' := h₁) fun b o hb e => he₁ b o (fun q => hb (List.mem_singleton.mpr q)) e
    exact done _ _ _ hJ I₁
end

/-! join, of two -/
def joinP (a b : Str) : Str := if Txt.endswith a "/" = true then a ++ b else a ++ ("/" ++ b)
theorem join_does {w : World} {a b : Str} {t u : Tok} (ha : a.length ≠ 0) (hb : Txt.startswith b "/" = false) (hl : a.length ≤ 1000) (hl' : b.length ≤ 1000) : Does w 2 122 [.str a t, .str b u] (fun _ => True) (fun _ v _ => ∃ t, v = .str (joinP a b) t) := by
  unfold Does
  k_fill
  intro A s E Q W r _ h
  refine' enterV [.str b u] (fun v => [("a", .str a t), ("p", v)]) (fun v => upd (upd (fun _ => none) "a" (.str a t)) "p" v) (fun _ => none) W r.room (by simp) ?ho ?hc ?hb ?hk ?h1 ?h2 ?h3 ?hm ?hcm ?_
  all_goals first | k_is | exact rfl | exact fun _ => rfl | exact fun _ _ => rfl | skip
  intro L c s₁ O I
  walk_at "w"
  refine Does.use fspath_does (by assumption) r.deeper (by decide) trivial ?_
  rintro _ _ _ rfl
  walk_at "w"
  refine Does.use get_sep_does (by assumption) r.deeper (by decide) trivial ?_
  rintro _ _ _ ⟨_, rfl⟩
  walk_at "w"
  refine try_ok ?_
  walk_at "w"
  rename_i I9
  refine for_one (fun m' cm' N' => cm' = (fun _ => none) ∧ ∃ t, m' "path" = some (.str (joinP a b) t)) O r.deeper.hh I9 (.head _) (by simp [Kd.cls]) rfl ?_ ?_
  · intro L s' I10
    walk_at "w"
    refine Does.use fspath_does (by assumption) r.deeper (by decide) trivial ?_
    rintro _ _ _ rfl
    walk_at "w"
    rw [hb, if_neg (by decide)]
    walk_at "w"
    refine truthyS (by assumption) (by omega) ?_
    intro _ I11
    rw [if_neg (by simp [ha])]
    walk_at "w"
    refine split_bool (fun q => nomatch q) (fun _ => ?_)
    walk_at "w"
    by_cases he : Txt.endswith a "/" = true
    · rw [he, if_pos rfl]
      walk_at "w"
      refine iaddS (by assumption) (by omega) ?_
      intro _ _ _
      walk_at "w"
      rename_i I12
      refine TurnEnd.go I12 ?_
      exact ⟨rfl, rfl, _, by unfold joinP; rw [if_pos he]; rfl⟩
    · rw [if_neg he]
      walk_at "w"
      refine addS (by assumption) (by show 1 + _ ≤ _; omega) ?_
      intro _ _ _
      have hll : ("/" ++ b : Str).length = 1 + b.length := by rw [← cs_length, cs_append]; simp; rfl
      refine iaddS (by assumption) (by omega) ?_
      intro _ _ _
      walk_at "w"
      rename_i I12
      refine TurnEnd.go I12 ?_
      exact ⟨rfl, rfl, _, by unfold joinP; rw [if_neg he]; rfl⟩
  · rintro m' _ s' ⟨rfl, _, hm⟩ I10
    walk_at "w"
    exact h _ _ I10.ks ⟨_, rfl⟩

/-! paths as texts -/
def pathS (p : List Str) : Str := "/" ++ Txt.join "/" p
theorem cs_pathS (p : List Str) : cs (pathS p) = 47 :: joinL 47 (p.map cs) := by
  unfold pathS
  rw [cs_append, sl_is, cs_join]; rfl
theorem subAt_sl (x : Str) (i : Nat) : PySem.Builtin.Str.subAt x "/" i = true ↔ (cs x)[i]? = some 47 := by
  rw [sl_is]
  show (x.cps.extract i (i + 1) == #[47]) = true ↔ _
  rw [beq_iff_eq, ← Array.toList_inj, Array.toList_extract]
  show ((cs x).extract i (i + 1)) = [47] ↔ _
  rw [List.extract_eq_take_drop, show i + 1 - i = 1 by omega]
  generalize cs x = l
  have e : l[i]? = (l.drop i)[0]? := by rw [List.getElem?_drop]; simp
  rw [e]
  cases l.drop i <;> simp
theorem ends_sl (x : Str) : Txt.endswith x "/" = true ↔ (cs x).getLast? = some 47 := by
  unfold Txt.endswith
  rw [Bool.and_eq_true, subAt_sl, List.getLast?_eq_getElem?, cs_length]
  show decide (0 + 1 ≤ x.length) = true ∧ (cs x)[x.length - 1]? = some 47 ↔ _
  simp only [Nat.zero_add, decide_eq_true_eq]
  refine ⟨fun h => h.2, fun h => ⟨?_, h⟩⟩
  have := (List.getElem?_eq_some_iff.mp h).1
  rw [cs_length] at this; omega
theorem rfind_sl {x : Str} {u v : List Nat} (h : cs x = u ++ 47 :: v) (hv : 47 ∉ v) : Txt.rfind x "/" = (u.length : Int) := by
  have hx : x.length = u.length + v.length + 1 := by rw [← cs_length, h]; simp; omega
  have hAt : StrLaws.At x "/" x.length u.length := ⟨by show _ + 1 ≤ _; omega, (subAt_sl _ _).mpr (by rw [h]; simp)⟩
  have hno : ∀ k, u.length < k → ¬ StrLaws.At x "/" x.length k := by
    intro k hk ⟨_, h2⟩
    rw [subAt_sl, h, List.getElem?_append_right (by omega)] at h2
    obtain ⟨j, hj⟩ : ∃ j, k - u.length = j + 1 := ⟨k - u.length - 1, by omega⟩
    rw [hj, List.getElem?_cons_succ] at h2
    exact hv (List.mem_of_getElem? h2)
  rcases rfind_whole x "/" with ⟨_, h1⟩ | ⟨i, e, h1, h2⟩
  · exact absurd hAt (h1 _)
  · rw [e]
    congr 1
    rcases Nat.lt_trichotomy i u.length with q | q | q
    · exact absurd hAt (h2 _ q)
    · exact q
    · exact absurd h1 (hno _ q)
theorem joinL_snoc (c : Nat) (x : List Nat) : ∀ {p : List (List Nat)}, p ≠ [] → joinL c (p ++ [x]) = joinL c p ++ c :: x
  | [], h => absurd rfl h
  | [y], _ => rfl
  | y :: z :: r, _ => by
    have := joinL_snoc c x (p := z :: r) (by simp)
    show y ++ c :: joinL c ((z :: r) ++ [x]) = _
    rw [this]; simp [joinL]
/-- the text of a path, up to its last name -/
def stem (p : List Str) : List Nat := if p = [] then [] else 47 :: joinL 47 (p.map cs)
theorem cs_snoc (p : List Str) (n : Str) : cs (pathS (p ++ [n])) = stem p ++ 47 :: cs n := by
  rw [cs_pathS, List.map_append, List.map_cons, List.map_nil]
  unfold stem
  by_cases h : p = []
  · simp [h, joinL]
  · rw [if_neg h, joinL_snoc _ _ (by simpa using h)]; rfl
theorem cut_snoc {p : List Str} {n : Str} (hn : Nm n) : cut (pathS (p ++ [n])) = ((stem p).length + 1 : Nat) := by
  unfold cut
  rw [rfind_sl (cs_snoc p n) (nm_facts _ hn).2.2.1]; rfl
theorem base_snoc {p : List Str} {n : Str} (hn : Nm n) : Txt.slice (pathS (p ++ [n])) (some (cut (pathS (p ++ [n])))) none = n := by
  apply cs_inj
  rw [cut_snoc hn, cs_from (by rw [← cs_length, cs_snoc]; simp), cs_snoc]
  rw [show stem p ++ 47 :: cs n = (stem p ++ [47]) ++ cs n by simp, List.drop_left' (by simp)]
theorem tail_snoc {p : List Str} {n : Str} (hn : Nm n) : tailOf (pathS (p ++ [n])) = n := base_snoc hn
theorem nm_last {n : Str} (h : Nm n) : ∃ r c, cs n = r ++ [c] ∧ c ≠ 47 := by
  obtain ⟨⟨c, r, e, _⟩, _, h47, _⟩ := nm_facts _ h
  refine ⟨(cs n).dropLast, (cs n).getLast (by simp [e]), (List.dropLast_concat_getLast _).symm, fun q => h47 (q ▸ List.getLast_mem _)⟩
theorem path_last {p : List Str} (h : ∀ n ∈ p, Nm n) (h0 : p ≠ []) : ∃ r c, cs (pathS p) = 47 :: r ++ [c] ∧ c ≠ 47 := by
  obtain ⟨q, n, rfl⟩ : ∃ q n, p = q ++ [n] := ⟨p.dropLast, p.getLast h0, (List.dropLast_concat_getLast h0).symm⟩
  obtain ⟨r, c, e, hc⟩ := nm_last (h n (by simp))
  by_cases hq : q = []
  · exact ⟨r, c, by rw [cs_snoc, e]; simp [stem, hq], hc⟩
  · exact ⟨joinL 47 (q.map cs) ++ 47 :: r, c, by rw [cs_snoc, e]; simp [stem, hq], hc⟩
theorem join_path {p : List Str} {n : Str} (h : ∀ n ∈ p, Nm n) : joinP (pathS p) n = pathS (p ++ [n]) := by
  apply cs_inj
  unfold joinP
  rw [cs_snoc]
  by_cases h0 : p = []
  · subst h0
    rw [if_pos ((ends_sl _).mpr rfl), cs_append]
    rfl
  · obtain ⟨r, c, e, hc⟩ := path_last h h0
    rw [if_neg (fun q => by rw [ends_sl, e, List.getLast?_concat] at q; exact hc (Option.some.inj q)), cs_append, cs_append, cs_pathS]
    simp [stem, h0]; rfl
theorem head_snoc {p : List Str} {n : Str} (h : ∀ n ∈ p, Nm n) (hn : Nm n) : headOf (pathS (p ++ [n])) = pathS p := by
  have e1 : cs (Txt.slice (pathS (p ++ [n])) none (some (cut (pathS (p ++ [n]))))) = stem p ++ [47] := by
    rw [cut_snoc hn, cs_to (by rw [← cs_length, cs_snoc]; simp), cs_snoc]
    rw [show stem p ++ 47 :: cs n = (stem p ++ [47]) ++ cs n by simp, List.take_left' (by simp)]
  unfold headOf
  dsimp only
  generalize Txt.slice (pathS (p ++ [n])) none (some (cut (pathS (p ++ [n])))) = H at e1
  have hl : H.length = (stem p).length + 1 := by rw [← cs_length, e1]; simp
  by_cases h0 : p = []
  · subst h0
    have : H = "/" := cs_inj (by rw [e1]; rfl)
    subst this
    rw [if_neg (by decide)]
    exact cs_inj (by rw [cs_pathS]; rfl)
  · obtain ⟨r, c, e, hc⟩ := path_last h h0
    have e2 : stem p = cs (pathS p) := by rw [cs_pathS]; simp [stem, h0]
    have hne : H ≠ Txt.mul "/" H.length := fun q => by
      have := congrArg cs q
      rw [e1, sl_is, cs_mul, e2, e] at this
      have hm : c ∈ List.replicate H.length 47 := by rw [← this]; simp
      exact hc (List.mem_replicate.mp hm).2
    rw [if_pos ⟨by omega, hne⟩]
    apply cs_inj
    rw [cs_rstrip, e1, e2, e]
    simp [sl_is, hc]
theorem joinL_len {c B : Nat} : ∀ {p : List (List Nat)}, (∀ x ∈ p, x.length ≤ B) → (joinL c p).length ≤ p.length * (B + 1)
  | [], _ => by simp [joinL]
  | [x], h => by have := h x (.head _); simp [joinL]; omega
  | x :: y :: r, h => by
    have h1 := h x (.head _)
    have h2 := joinL_len (c := c) (p := y :: r) (fun z hz => h z (.tail _ hz))
    have e : (x :: y :: r).length * (B + 1) = (y :: r).length * (B + 1) + (B + 1) := by rw [List.length_cons, Nat.add_one_mul]
    rw [e]
    simp only [joinL, List.length_append, List.length_cons] at *
    omega
theorem path_len {p : List Str} (h : ∀ n ∈ p, Nm n) : (pathS p).length ≤ p.length * 4 + 1 := by
  rw [← cs_length, cs_pathS, List.length_cons]
  have := joinL_len (c := 47) (B := 3) (p := p.map cs) (fun x hx => by obtain ⟨n, hn, rfl⟩ := List.mem_map.mp hx; exact (nm_facts _ (h n hn)).2.2.2.2)
  simp only [List.length_map] at this
  omega
theorem path_ne (p : List Str) : (pathS p).length ≠ 0 := by rw [← cs_length, cs_pathS]; simp
theorem nm_starts {n : Str} (h : Nm n) : Txt.startswith n "/" = false := by
  simp only [Nm, names4, List.mem_cons, List.not_mem_nil, or_false] at h
  rcases h with rfl | rfl | rfl | rfl <;> decide
theorem path_starts (p : List Str) : Txt.startswith (pathS p) "/" = true := by
  unfold Txt.startswith
  rw [Bool.and_eq_true, subAt_sl, cs_pathS]
  refine ⟨?_, rfl⟩
  have : (cs (pathS p)).length = (pathS p).length := rfl
  rw [cs_pathS] at this
  simp only [List.length_cons] at this
  show decide (0 + 1 ≤ _) = true
  simp; omega
theorem pathS_inj {p q : List Str} (hp : ∀ n ∈ p, Nm n) (hq : ∀ n ∈ q, Nm n) (h : pathS p = pathS q) : p = q := by
  have hc := congrArg cs h
  rw [cs_pathS, cs_pathS] at hc
  injection hc with _ hc
  have inj : ∀ l l' : List Str, l.map cs = l'.map cs → l = l' := by
    intro l
    induction l with
    | nil => intro l' h; cases l' with | nil => rfl | cons a b => simp at h
    | cons a b ih => intro l' h; cases l' with | nil => simp at h | cons a' b' => simp only [List.map_cons, List.cons.injEq] at h; rw [cs_inj h.1, ih _ h.2]
  have hj0 : ∀ {p : List Str}, (∀ n ∈ p, Nm n) → p ≠ [] → joinL 47 (p.map cs) ≠ [] := by
    intro p hp h0 q
    obtain ⟨r, c, e, _⟩ := path_last hp h0
    rw [cs_pathS, q] at e
    simp at e
  by_cases h0 : p = []
  · subst h0
    by_cases h1 : q = []
    · exact h1.symm
    · exact absurd hc.symm (hj0 hq h1)
  · by_cases h1 : q = []
    · subst h1; exact absurd hc (hj0 hp h0)
    · refine inj _ _ (joinL_inj (c := 47) (by simpa using h0) (by simpa using h1) (fun x hx => ?_) (fun x hx => ?_) hc)
      · obtain ⟨n, hn, rfl⟩ := List.mem_map.mp hx; exact (nm_facts _ (hp n hn)).2.2.1
      · obtain ⟨n, hn, rfl⟩ := List.mem_map.mp hx; exact (nm_facts _ (hq n hn)).2.2.1
theorem split_path {p : List Str} (hp : ∀ n ∈ p, Nm n) (h0 : p ≠ []) : Txt.split (pathS p) "/" = Str.ofString "" :: p := by
  have e : pathS p = Txt.join ⟨#[47]⟩ (Str.ofString "" :: p) := by
    apply cs_inj
    rw [cs_pathS, cs_join]
    cases p with
    | nil => exact absurd rfl h0
    | cons a r => rfl
  rw [e, sl_is]
  refine split_join (by simp) fun x hx => ?_
  rcases List.mem_cons.mp hx with rfl | hx
  · decide
  · exact (nm_facts _ (hp x hx)).2.2.1
theorem split_root : Txt.split (pathS []) "/" = [Str.ofString "", Str.ofString ""] := by
  have e : pathS [] = Txt.join ⟨#[47]⟩ [Str.ofString "", Str.ofString ""] := by
    apply cs_inj
    rw [cs_pathS, cs_join]; rfl
  rw [e, sl_is]
  exact split_join (by simp) (by intro x hx; simp at hx; subst hx; decide)

/-! _law_hung -/
set_option maxHeartbeats 1000000 in
theorem hung_does {w : World} {q ab : List Str} {n : Str} (hq : ∀ x ∈ q, Nm x) (hab : ∀ x ∈ ab, Nm x) (hn : Nm n) (l1 : q.length ≤ 20) (l2 : ab.length ≤ 20) :
    ∀ (k : Nat) (r : List Str) (t u v : Tok), r.length = k → k ≤ 20 → (∀ x ∈ r, Nm x) → Does w (k + 3) 167 [.str (pathS (q ++ [n] ++ r)) t, .str (pathS (q ++ [n])) u, .str (pathS ab) v] (fun _ => True) (fun _ z _ => ∃ t, z = .str (pathS (ab ++ [n] ++ r)) t) := by
  intro k
  induction k with
  | zero =>
    intro r t u v hr _ _
    have : r = [] := List.length_eq_zero_iff.mp hr
    subst this
    rw [List.append_nil, List.append_nil]
    have hpl := path_len (p := q ++ [n]) (by intro x hx; rcases List.mem_append.mp hx with hx | hx; exact hq x hx; rw [List.mem_singleton.mp hx]; exact hn)
    have hal := path_len hab
    simp only [List.length_append, List.length_cons, List.length_nil] at hpl
    unfold Does
    k_fill
    intro A s E Q W r _ h
    refine' enter [("path", .str (pathS (q ++ [n])) t), ("place", .str (pathS (q ++ [n])) u), ("above", .str (pathS ab) v)] (upd (upd (upd (fun _ => none) "path" (.str (pathS (q ++ [n])) t)) "place" (.str (pathS (q ++ [n])) u)) "above" (.str (pathS ab) v)) (fun _ => none) W r.room ?ho ?hc ?hb ?hk ?h1 ?h2 ?h3 ?hm ?hcm ?_
    walk_at "ent"
    intro L s₁ O I
    walk_at "w"
    rw [if_pos (by simp)]
    walk_at "w"
    refine Does.use (basename_does (by omega)) (by assumption) r.deeper (by decide) trivial ?_
    rintro _ _ _ ⟨_, rfl⟩
    rw [base_snoc hn]
    walk_at "w"
    refine Does.use (join_does (path_ne _) (nm_starts hn) (by omega) (by have := (nm_facts _ hn).2.2.2.2; omega)) (by assumption) r.deeper (by decide) trivial ?_
    rintro _ _ I9 ⟨_, rfl⟩
    rw [join_path hab]
    walk_at "w"
    exact h _ _ I9.ks ⟨_, rfl⟩
  | succ k ih =>
    intro r t u v hr hk hrn
    obtain ⟨r', x, rfl⟩ : ∃ r' x, r = r' ++ [x] := ⟨r.dropLast, r.getLast (by intro e; simp [e] at hr), (List.dropLast_concat_getLast _).symm⟩
    have hr' : r'.length = k := by simpa using hr
    have hrn' : ∀ y ∈ r', Nm y := fun y hy => hrn y (List.mem_append.mpr (.inl hy))
    have hx : Nm x := hrn x (by simp)
    have hnp : ∀ y ∈ q ++ [n] ++ r', Nm y := by
      intro y hy
      simp only [List.mem_append, List.mem_singleton] at hy
      rcases hy with (hy | hy) | hy
      · exact hq y hy
      · rw [hy]; exact hn
      · exact hrn' y hy
    have hna : ∀ y ∈ ab ++ [n] ++ r', Nm y := by
      intro y hy
      simp only [List.mem_append, List.mem_singleton] at hy
      rcases hy with (hy | hy) | hy
      · exact hab y hy
      · rw [hy]; exact hn
      · exact hrn' y hy
    have hnp2 : ∀ y ∈ q ++ [n] ++ r' ++ [x], Nm y := fun y hy => by
      rcases List.mem_append.mp hy with hy | hy
      · exact hnp y hy
      · rw [List.mem_singleton.mp hy]; exact hx
    have hne : pathS (q ++ [n] ++ r' ++ [x]) ≠ pathS (q ++ [n]) := fun e => by
      have := pathS_inj hnp2 (fun y hy => hnp y (List.mem_append.mpr (.inl hy))) e
      have := congrArg List.length this
      simp at this
    have hpl := path_len hnp2
    have hal := path_len hna
    have e3 : q ++ [n] ++ (r' ++ [x]) = q ++ [n] ++ r' ++ [x] := by simp
    have e4 : ab ++ [n] ++ (r' ++ [x]) = ab ++ [n] ++ r' ++ [x] := by simp
    rw [e3, e4]
    simp only [List.length_append, List.length_cons, List.length_nil] at hpl hal
    have ih' := fun a b c => ih r' a b c hr' (by omega) hrn'
    have hh := head_snoc hnp hx
    have ht := tail_snoc (p := q ++ [n] ++ r') hx
    have hj := join_path (n := x) hna
    have hne0 := path_ne (ab ++ [n] ++ r')
    generalize pathS (q ++ [n] ++ r' ++ [x]) = P at *
    generalize pathS (q ++ [n] ++ r') = P' at *
    generalize pathS (q ++ [n]) = PL at *
    generalize pathS (ab ++ [n] ++ r' ++ [x]) = R at *
    generalize pathS (ab ++ [n] ++ r') = R' at *
    generalize pathS ab = AB at *
    unfold Does
    k_fill
    intro A s E Q W r _ h
    replace r : Rm A ((k + 3) + 1) := r.le (by omega)
    refine' enter [("path", .str P t), ("place", .str PL u), ("above", .str AB v)] (upd (upd (upd (fun _ => none) "path" (.str P t)) "place" (.str PL u)) "above" (.str AB v)) (fun _ => none) W r.room ?jo ?jc ?jb ?jk ?j1 ?j2 ?j3 ?jm ?jcm ?_
    walk_at "ent"
    intro L s₁ O I
    walk_at "w"
    rw [if_neg (by simpa using hne)]
    walk_at "w"
    refine Does.use (split_does (by omega)) (by assumption) r.deeper (by omega) trivial ?_
    rintro _ _ I9 ⟨a, t1, t2, rfl, he⟩
    have I10 := I9.add (k := .ob _) ⟨_, he, rfl, rfl⟩
    rw [hh, ht] at I10
    clear I9
    walk_at "w"
    refine asg2 O I10 r.deeper.hh (.head _) ?_ rfl rfl
    intro _ _
    walk_at "w"
    refine Does.use (ih' _ _ _) (by assumption) r.deeper (by omega) trivial ?_
    rintro _ _ _ ⟨_, rfl⟩
    walk_at "w"
    refine Does.use (join_does hne0 (nm_starts hx) (by omega) (by have := (nm_facts _ hx).2.2.2.2; omega)) (by assumption) r.deeper (by omega) trivial ?_
    rintro _ _ I11 ⟨_, rfl⟩
    rw [hj]
    walk_at "w"
    exact h _ _ I11.ks ⟨_, rfl⟩

/-! map objects -/
namespace MF
theorem owner_map : Manifest.owners.lookup (String.ofList ['p', 'a', 'm'].reverse) = some Manifest.sig_map := by kernel_rfl
theorem slot_iter : Slot "map" "__iter__" "map.__iter__" :=
  .of (owner := "map") (n := "__iter__") (by rw [typeLookup_type, builtinLookup_eq_fast]; kernel_rfl) (by decide +kernel) (by decide +kernel) (by decide +kernel)
    (by first | exact .inl (by decide +kernel) | exact .inr (by decide +kernel)) (by rw [isSubtype_type]; kernel_rfl)
theorem slot_next : Slot "map" "__next__" "map.__next__" :=
  .of (owner := "map") (n := "__next__") (by rw [typeLookup_type, builtinLookup_eq_fast]; kernel_rfl) (by decide +kernel) (by decide +kernel) (by decide +kernel)
    (by first | exact .inl (by decide +kernel) | exact .inr (by decide +kernel)) (by rw [isSubtype_type]; kernel_rfl)
theorem slot_init : Slot "map" "__init__" "object.__init__" :=
  .of (owner := "object") (n := "__init__") (by rw [typeLookup_type, builtinLookup_eq_fast]; kernel_rfl) (by decide +kernel) (by decide +kernel) (by decide +kernel)
    (by first | exact .inl (by decide +kernel) | exact .inr (by decide +kernel)) (by rw [isSubtype_type]; kernel_rfl)
theorem args_iter (a : Value) : argsOk "map.__iter__" ⟨[a], []⟩ := by
  unfold argsOk; rw [signature?_of (id := "map.__iter__") (n := ['_', '_', 'r', 'e', 't', 'i', '_', '_']) (o := ['p', 'a', 'm']) (by kernel_rfl) owner_map]; kernel_rfl
theorem args_next (a : Value) : argsOk "map.__next__" ⟨[a], []⟩ := by
  unfold argsOk; rw [signature?_of (id := "map.__next__") (n := ['_', '_', 't', 'x', 'e', 'n', '_', '_']) (o := ['p', 'a', 'm']) (by kernel_rfl) owner_map]; kernel_rfl
theorem entry_iter : entryFor table "map.__iter__" = some Builtin.«dict_keyiterator.__iter__» :=
  entryFor_alias (id' := "dict_keyiterator.__iter__") (by kernel_rfl) (by first | rfl | decide +kernel | (unfold String.splitOn; simp +decide [String.splitOnAux])) (by decide +kernel) (by kernel_rfl)
theorem entry_next : entryFor table "map.__next__" = some Builtin.«map.__next__» := entryFor_of_tree (by kernel_rfl)
theorem entry_new : entryFor table "map.__new__" = some Builtin.«map.__new__» := entryFor_of_tree (by kernel_rfl)
theorem mro : mroOf (.type "map") = pure [.type "map", .type "object"] := by rw [mroOf_type]; kernel_rfl
theorem lookup_new : typeLookup (.type "map") "__new__" = pure (some (.builtin "map.__new__")) := by rw [typeLookup_type, builtinLookup_eq_fast]; kernel_rfl
theorem called : TypeCalled "map" "map.__new__" "object.__init__" :=
  ⟨by decide +kernel, by decide +kernel, ⟨_, _, mro⟩, madeBy_type mro lookup_new (by decide +kernel), by decide +kernel, by rw [isSubtype_type]; kernel_rfl, slot_init⟩
theorem typeCall (a b : Value) : checkTypeCall "map" ⟨[a, b], []⟩ = pure () := by kernel_rfl
theorem newCall (a b : Value) : checkBuiltinCall "map.__new__" ⟨[.type "map", a, b], []⟩ = pure () := by kernel_rfl
theorem sub : isSubtype (.type "map") (.type "map") = pure true := by rw [isSubtype_type]; kernel_rfl
theorem no_len : typeLookup (.type "map") "__len__" = pure none := by rw [typeLookup_type, builtinLookup_eq_fast]; kernel_rfl
theorem no_hint : typeLookup (.type "map") "__length_hint__" = pure none := by rw [typeLookup_type, builtinLookup_eq_fast]; kernel_rfl
theorem args_init (o a b : Value) : argsOk "object.__init__" ⟨[o, a, b], []⟩ := by
  first | exact F.args_object_init_3 o a b | (unfold argsOk; kernel_rfl)
end MF

open AutoSeq1 (wpAny_loadPart')
open Sem (wp)
abbrev mapO (tup : Addr) (f : Value) : Obj := { cls := .type "map", dict := none, data := .fields #[.ref tup, f], slots := #[] }
abbrev liO (l : Addr) : Obj := { cls := .type "list_iterator", data := .fields #[.ref l, .int 0 0] }
theorem meets_map_new (f : Value) (l : Addr) (items : Array Value) (n : Nat) (dct : Option Addr) (sl : Array (Option Value)) :
    Meets (Builtin.«map.__new__» ⟨[.type "map", f, .ref l], []⟩) (fun _ R s => s.heap.get? l = some { cls := .type "list", dict := dct, data := .seq items n, slots := sl } ∧
      R (.ok (.ret (.ref (s.heap.objs.size + 2)))) { s with heap := ((s.heap.push (liO l)).push (tupO [.ref s.heap.objs.size])).push (mapO (s.heap.objs.size + 1) f) }) :=
  .of_wp fun prog w A R s h => by
    obtain ⟨hp, g, d, tk, os⟩ := s; obtain ⟨hl, h⟩ := h
    have hsub := MF.sub
    have hL : Heap.IsList (Shared.heap ⟨hp, g, d, tk, os⟩) l items := ⟨_, hl, rfl, n, rfl⟩
    wp_walk using wpAny_loadPart' hl, wpAny_pyIter_list hL
    refine ⟨_, rfl, ?_⟩
    simpa [Heap.size_push] using h

section
variable {prog : Program} {w : World} {A : Around} {E : Value → Shared → Prop} {s : Shared}
theorem call_map {f : Value} {l : Addr} {items : Array Value} {Q : Value → Shared → Prop} (hL : s.heap.IsList l items)
    (h : ∀ h', h'.get? (s.heap.objs.size + 2) = some (mapO (s.heap.objs.size + 1) f) → h'.get? (s.heap.objs.size + 1) = some (tupO [.ref s.heap.objs.size]) → h'.get? s.heap.objs.size = some (liO l) →
      (∀ b o, s.heap.get? b = some o → h'.get? b = some o) → Q (.ref (s.heap.objs.size + 2)) { s with heap := h' }) :
    wpAny (model prog w) A (call (.type "map") [f, .ref l]) Q E s := by
  obtain ⟨⟨c, dct, dt, sl⟩, hl, hc, n, hd⟩ := hL
  replace hc : c = .type "list" := hc
  replace hd : dt = .seq items n := hd
  subst hc hd
  refine callType_new MF.called (by decide) (MF.typeCall _ _) (MF.newCall _ _) (fun obj => MF.args_init obj _ _) MF.entry_new (meets_map_new f l items n dct sl) ⟨hl, ?_⟩
  have h1 : ((s.heap.push (liO l)).push (tupO [.ref s.heap.objs.size])).objs.size = s.heap.objs.size + 2 := by simp [Heap.size_push]
  have h2 : (s.heap.push (liO l)).objs.size = s.heap.objs.size + 1 := by simp [Heap.size_push]
  have e1 : (((s.heap.push (liO l)).push (tupO [.ref s.heap.objs.size])).push (mapO (s.heap.objs.size + 1) f)).get? (s.heap.objs.size + 2) = some (mapO (s.heap.objs.size + 1) f) := by
    rw [← h1]; exact Heap.get?_push_size _ rfl
  refine ⟨⟨_, e1, rfl⟩, h _ e1 (Heap.get?_push_of_some _ ?_) (Heap.get?_push_of_some _ (Heap.get?_push_of_some _ (Heap.get?_push_size _ rfl))) fun b o x => Heap.get?_push_of_some _ (Heap.get?_push_of_some _ (Heap.get?_push_of_some _ x))⟩
  rw [← h2]; exact Heap.get?_push_size _ rfl

theorem next_map {mp tup it l : Addr} {f x : Value} {i : Nat} {items : Array Value} {Q : Option Value → Shared → Prop} (hm : s.heap.get? mp = some (mapO tup f)) (ht : s.heap.get? tup = some (tupO [.ref it]))
    (hit : s.heap.IsListIter it l i) (hl : s.heap.IsList l items) (hx : items[i]? = some x) (hne : mp ≠ it)
    (hc : ∀ h', h'.IsListIter it l (i + 1) → Heap.SameBut it s.heap h' → wpAny (model prog w) A.in1 (call f [x]) (fun v s' => Q (some v) s') (fun _ _ => False) { s with heap := h' }) :
    wpAny (model prog w) A (pyNext (.ref mp)) Q E s := by
  have hT : s.TypeIs (.ref mp) "map" := ⟨_, hm, rfl⟩
  unfold pyNext
  refine wpAny_bind (wpAny_attempt (wpAny_callSpecial?_slot (name := Str.ofString "__next__") hT MF.slot_next (wpAny_call_entry MF.slot_next hT MF.entry_next ?_ (MF.args_next _))))
  show wpAny _ _ (field (.ref mp) 0 >>= _) _ _ _
  refine wpAny_bind (wpAny_field hm rfl (x := .ref tup) rfl ?_)
  show wpAny _ _ (seqItems? (.ref tup) >>= _) _ _ _
  refine wpAny_bind (wpAny_seqItems ht rfl ?_)
  dsimp only
  refine wpAny_bind ?_
  rw [← Array.forIn_toList]
  show wpAny _ _ (forIn [Value.ref it] _ _) _ _ _
  rw [List.forIn_cons]
  refine wpAny_bind (wpAny_bind ?_)
  show wpAny _ _ (Builtin.SmallTypes.nextOf (.ref it)) _ _ _
  refine wpAny_nextOf_list_item hit hl hx fun h₁ hit₁ hs₁ => ?_
  refine wpAny_pure ?_
  dsimp only
  rw [List.forIn_nil]
  refine wpAny_pure ?_
  have hm₁ : h₁.get? mp = some (mapO tup f) := (hs₁.2 mp hne).trans hm
  refine wpAny_bind (wpAny_field hm₁ rfl (x := f) rfl ?_)
  refine wpAny_bind (wpAny_holding ?_)
  refine wpAny_mono (hc h₁ hit₁ hs₁) (fun v s' hv => ?_) fun _ _ e => e.elim
  exact wpAny_bind (wpAny_letGo (wpAny_pure ⟨_, rfl, wpAny_pure hv⟩))

theorem next_map_end {mp tup it l : Addr} {f : Value} {i : Nat} {items : Array Value} {Q : Option Value → Shared → Prop} (hh : A.handled = none) (hm : s.heap.get? mp = some (mapO tup f)) (ht : s.heap.get? tup = some (tupO [.ref it]))
    (hit : s.heap.IsListIter it l i) (hl : s.heap.IsList l items) (hx : items[i]? = none)
    (hQ : ∀ h', Heap.ExtBut it s.heap h' → Q none { s with heap := h' }) : wpAny (model prog w) A (pyNext (.ref mp)) Q E s := by
  have hT : s.TypeIs (.ref mp) "map" := ⟨_, hm, rfl⟩
  unfold pyNext
  refine wpAny_bind (wpAny_attempt (wpAny_callSpecial?_slot (name := Str.ofString "__next__") hT MF.slot_next (wpAny_call_entry MF.slot_next hT MF.entry_next ?_ (MF.args_next _))))
  show wpAny _ _ (field (.ref mp) 0 >>= _) _ _ _
  refine wpAny_bind (wpAny_field hm rfl (x := .ref tup) rfl ?_)
  show wpAny _ _ (seqItems? (.ref tup) >>= _) _ _ _
  refine wpAny_bind (wpAny_seqItems ht rfl ?_)
  dsimp only
  refine wpAny_bind ?_
  rw [← Array.forIn_toList]
  show wpAny _ _ (forIn [Value.ref it] _ _) _ _ _
  rw [List.forIn_cons]
  refine wpAny_bind (wpAny_bind ?_)
  show wpAny _ _ (Builtin.SmallTypes.nextOf (.ref it)) _ _ _
  refine wpAny_nextOf_list_end hh hit hl hx fun h' x he' hx' => ?_
  obtain ⟨o, ho, hc⟩ := hx'
  refine wpAny_bind (wpAny_isInstance (T := "StopIteration") (b := true) ⟨o, ho, hc⟩ isSubtype_stop ?_)
  exact wpAny_pure (hQ _ he')

theorem iter_map {mp tup : Addr} {f : Value} {Q : Value → Shared → Prop} (hm : s.heap.get? mp = some (mapO tup f)) (h : Q (.ref mp) s) : wpAny (model prog w) A (pyIter (.ref mp)) Q E s := by
  have hT : s.TypeIs (.ref mp) "map" := ⟨_, hm, rfl⟩
  refine wpAny_pyIter_slot hT MF.slot_iter (wpAny_call_entry MF.slot_iter hT MF.entry_iter ?_ (MF.args_iter _))
  show wpAny _ _ (ret (.ref mp)) _ _ s
  exact wpAny_pure ⟨_, rfl, "map", _, hT, MF.slot_next.lookup, h⟩

/-- one turn of a list's extending -/
theorem ext_step {R : Result → Shared → Prop} {S I : Addr} {res : Value}
    (h : wpAny (model prog w) A.in1 (pyNext (.ref I)) (fun r s' => match r with
      | none => R (.ok (.ret res)) s'
      | some v => ∃ acc c, s'.heap.get? S = some { cls := .type "list", dict := none, data := .seq acc c, slots := #[] } ∧ acc.size ≤ 100 ∧
        codeAny (model prog w) A (.builtin "list.extend.loop" ⟨[.ref S, .ref I, res], []⟩) R { s' with heap := s'.heap.update S (Obj.mapSeq (·.push v)) }) (fun _ _ => False) s) :
    codeAny (model prog w) A (.builtin "list.extend.loop" ⟨[.ref S, .ref I, res], []⟩) R s := by
  refine codeAny_builtin F.entry_extend_loop ?_
  rw [Around.under_plainId F.plain_extend_loop _]
  show wpAny _ A.in1 (pyNext (.ref I) >>= _) _ _ s
  refine wpAny_bind (wpAny_mono h (fun r s' hr => ?_) fun _ _ e => e.elim)
  cases r with
  | none => exact wpAny_pure hr
  | some v =>
    obtain ⟨acc, c, hS, hz, hr⟩ := hr
    show wpAny _ A.in1 (updateSeq S (·.push v) >>= _) _ _ _
    refine wpAny_bind ?_
    exact wpAny_updateSeq hS rfl (wpAny_pure ⟨plainId_quiet F.plain_extend_loop _, hr⟩) (by rw [sizeLine_eq]; omega) (by show (acc.push v).size ≤ sizeLine + 1; rw [Array.size_push, sizeLine_eq]; omega)
end

open AutoSeq1 (wpAny_loadPart')
open Sem (wp)
section
variable {prog : Program} {w : World} {A : Around} {E : Value → Shared → Prop} {s : Shared}
abbrev bareL (acc : Array Value) (c : Nat) : Obj := { cls := .type "list", dict := none, data := .seq acc c, slots := #[] }
theorem collect_map {mp tup : Addr} {f : Value} {Q : List Value → Shared → Prop} (hm : s.heap.get? mp = some (mapO tup f))
    (h : ∀ h₁ c, h₁.get? s.heap.objs.size = some (bareL #[] c) → (∀ b o, s.heap.get? b = some o → h₁.get? b = some o) →
      codeAny (model prog w) A (.builtin "list.extend.loop" ⟨[.ref s.heap.objs.size, .ref mp, .ref s.heap.objs.size], []⟩)
        (fun r s' => r = .ok (.ret (.ref s.heap.objs.size)) ∧ ∃ acc c, s'.heap.get? s.heap.objs.size = some (bareL acc c) ∧ Q acc.toList s') { s with heap := h₁ }) :
    wpAny (model prog w) A (collect (.ref mp)) Q E s := by
  have hSI : s.heap.objs.size ≠ mp := Nat.ne_of_gt (Heap.lt_size hm)
  unfold collect
  refine wpAny_bind (wpAny_runValue (codeAny_builtin F.entry_proto_collect ?_))
  rw [Around.under_plainId F.plain_proto_collect _]
  show wpAny _ A.in1 (newList [] >>= fun l => again (.builtin "list.__iadd__" ⟨[l, .ref mp], []⟩)) _ _ s
  refine wpAny_bind (wpAny_newObj_type ?_)
  refine wpAny_pure ⟨plainId_quiet F.plain_list_iadd _, codeAny_builtin F.entry_list_iadd ?_⟩
  rw [Around.under_plainId F.plain_list_iadd _]
  have hm₁ : (s.heap.push { cls := .type "list", data := .seq ([] : List Value).toArray }).get? mp = some (mapO tup f) := Heap.get?_push_of_some _ hm
  have hT₁ : Shared.TypeIs ({ s with heap := s.heap.push { cls := .type "list", data := .seq ([] : List Value).toArray } } : Shared) (.ref mp) "map" := ⟨_, hm₁, rfl⟩
  show wpAny _ A.in1 (Builtin.List.listExtendWith (.ref s.heap.objs.size) (.ref mp) (.ref s.heap.objs.size)) _ _ _
  unfold Builtin.List.listExtendWith
  refine wpAny_bind (wpAny_typeOf hT₁ ?_)
  have h1 : Builtin.List.listSameRef (.ref s.heap.objs.size) (.ref mp) = false := by simp [Builtin.List.listSameRef, hSI]
  have h2 : (Value.type "map" == Value.type "list") = false := by decide
  have h3 : (Value.type "map" == Value.type "tuple") = false := by decide
  simp only [h1, h2, h3, Bool.or_false, Bool.false_eq_true, if_false]
  refine wpAny_bind (iter_map hm₁ ?_)
  refine wpAny_bind (wpAny_holding ?_)
  unfold Builtin.List.listLengthHint
  refine wpAny_bind (wpAny_specialOf hT₁ MF.no_len ?_)
  show wpAny _ A.in1 (specialOf (Value.ref mp) (Str.ofString "__length_hint__") >>= _) _ _ _
  refine wpAny_bind (wpAny_specialOf hT₁ MF.no_hint ?_)
  refine wpAny_pure ?_
  show wpAny _ A.in1 (rule "list.extend.makes-room" >>= fun _ => Builtin.List.listTouch (.ref s.heap.objs.size) >>= fun _ =>
    again (.builtin "list.extend.loop" ⟨[.ref s.heap.objs.size, .ref mp, .ref s.heap.objs.size], []⟩)) _ _ _
  refine wpAny_bind (wpAny_rule ?_)
  have hS₁ : (s.heap.push { cls := .type "list", data := .seq ([] : List Value).toArray }).get? s.heap.objs.size = some { cls := .type "list", data := .seq ([] : List Value).toArray } := Heap.get?_push_size _ rfl
  refine wpAny_bind ?_
  show wpAny _ A.in1 (updateSeq s.heap.objs.size (·.push .none) >>= fun _ => updateSeq s.heap.objs.size (·.pop)) _ _ _
  refine wpAny_bind (wpAny_updateSeq hS₁ rfl ?_)
  have hS₂ := Heap.get?_update_self (Obj.mapSeq (·.push Value.none)) hS₁ rfl
  refine wpAny_updateSeq hS₂ rfl ?_
  have hS₃ := Heap.get?_update_self (Obj.mapSeq (·.pop)) hS₂ rfl
  refine wpAny_pure ⟨plainId_quiet F.plain_extend_loop _, codeAny_mono (h _ _ hS₃ fun b o e => ?_) fun r s' hr => ?_⟩
  · have hb : s.heap.objs.size ≠ b := Nat.ne_of_gt (Heap.lt_size e)
    exact (Heap.get?_update_other _ _ hb).trans ((Heap.get?_update_other _ _ hb).trans (Heap.get?_push_of_some _ e))
  · obtain ⟨rfl, acc, c, hS, hq⟩ := hr
    show wpAny _ A (load s.heap.objs.size >>= _) _ _ s'
    exact wpAny_bind (wpAny_load hS (wpAny_pure hq))

theorem tuple_map {mp tup : Addr} {f : Value} {Q : Value → Shared → Prop} (hm : s.heap.get? mp = some (mapO tup f))
    (h : ∀ h₁ c, h₁.get? s.heap.objs.size = some (bareL #[] c) → (∀ b o, s.heap.get? b = some o → h₁.get? b = some o) →
      codeAny (model prog w) A.in1.in1 (.builtin "list.extend.loop" ⟨[.ref s.heap.objs.size, .ref mp, .ref s.heap.objs.size], []⟩)
        (fun r s' => r = .ok (.ret (.ref s.heap.objs.size)) ∧ ∃ acc c, s'.heap.get? s.heap.objs.size = some (bareL acc c) ∧ acc.size ≤ 100 ∧ Q (.ref s'.heap.objs.size) { s' with heap := s'.heap.push (tupO acc.toList) }) { s with heap := h₁ }) :
    wpAny (model prog w) A (call (.type "tuple") [.ref mp]) Q E s := by
  refine callType_codes (Q₁ := fun obj s₁ => s₁.TypeIs obj "tuple" ∧ Q obj s₁) F.called_tuple (F.typeCall_tuple_1 _) F.entry_object_init ?_ fun obj s₁ h₁ => ?_
  · refine codeAny_of_tree ?_
    show wpAny _ A.in1.in1 (do checkBuiltinCall "tuple.__new__" ⟨[.type "tuple", .ref mp], []⟩; again (.builtin "tuple.__new__" ⟨[.type "tuple", .ref mp], []⟩)) _ _ s
    refine wpAny_bind (wpAny_of_eq (F.newCall_tuple_1 _) (wpAny_pure ⟨plainId_quiet F.plain_tuple_new _, codeAny_builtin F.entry_tuple_new ?_⟩))
    rw [Around.under_plainId F.plain_tuple_new _]
    have hsub := sub_tuple_self
    have hinit := init_tuple_lookup
    have hmh := madeHere_tuple
    have hTI : s.TypeIs (.ref mp) "map" := ⟨_, hm, rfl⟩
    wp_walk using wpAny_typeOf hTI, collect_map hm
    intro h₁ c hS hk
    refine codeAny_mono (h h₁ c hS hk) fun r s' ⟨e, acc, c', hS', hz, hq⟩ => ⟨e, acc, c', hS', ?_⟩
    show wpAny _ _ (Builtin.Tuple.tupleExact acc.toList.toArray >>= fun v => ret v) _ _ _
    unfold Builtin.Tuple.tupleExact
    refine wpAny_bind (wpAny_newObj_type ?_ (by show acc.toList.toArray.size ≤ sizeLine; rw [sizeLine_eq]; simp; omega))
    exact wpAny_pure ⟨⟨_, Heap.get?_push_size _ rfl, rfl⟩, hq⟩
  · exact ⟨h₁.1, F.args_object_init_2 obj _, object_init_meets F.called_tuple.init.lookup F.called_tuple.made (by decide) prog w A.in1 _ s₁ ⟨h₁.1, rfl, h₁.2⟩⟩
end

section
variable {K : Frag} {s₀ s : Shared} {env : Env} {m cm : Str → Option Value} {N : List (Addr × Kd)} {prog : Program} {w : World} {A : Around} {E : Value → Shared → Prop} {Q : Value → Shared → Prop}
theorem mapTwo {a f : Addr} {x y : Str} (I : In K s₀ env m cm N s) (hh : A.handled = none) (ha : (a, .tl [x, y]) ∈ N) (hN : ∀ p ∈ N, p.2.cls ≠ .type "list_iterator")
    (hf : ∀ z t s' Q, Wd K s'.heap → (∀ s'', Keeps s' s'' → Q (.str z t) s'') → wpAny (model prog w) A.in1.in1.in1.in1 (call (.ref f) [.str z t]) Q (fun _ _ => False) s')
    (h : ∀ T t u s', New s₀ N T → In K s₀ env m cm ((T, .ob (tupO [.str x t, .str y u])) :: N) s' → Q (.ref T) s') :
    wpAny (model prog w) A (call (.type "map") [.ref f, .ref a]) (fun v s₁ => wpAny (model prog w) A (call (.type "tuple") [v]) Q E s₁) E s := by
  obtain ⟨l, n, hl, e⟩ := I.isL ha
  obtain ⟨t, u, rfl⟩ : ∃ t u, l = [(x, t), (y, u)] := by
    match l, e with
    | [(x', t), (y', u)], e => simp only [List.map_cons, List.map_nil, List.cons.injEq, and_true] at e; obtain ⟨rfl, rfl⟩ := e; exact ⟨t, u, rfl⟩
  have hfr := I.fresh
  refine call_map hl.isList fun h₁ e1 e2 e3 k1 => ?_
  have I1 := I.kp (s' := { s with heap := h₁ }) ⟨h₁, s.toks, rfl, k1⟩
  have hla : a < s.heap.objs.size := by obtain ⟨o, ho, _⟩ := I.get ha; exact Heap.lt_size ho
  have hna : a ≠ s.heap.objs.size := Nat.ne_of_lt hla
  have hn2 : s.heap.objs.size + 2 ≠ s.heap.objs.size := by omega
  have hn1 : s.heap.objs.size + 1 ≠ s.heap.objs.size := by omega
  generalize s.heap.objs.size + 2 = mp at e1 hn2 ⊢
  generalize s.heap.objs.size + 1 = tup at e1 e2 hn1 ⊢
  generalize s.heap.objs.size = it at e2 e3 hfr hna hn1 hn2 ⊢
  have hit1 : h₁.IsListIter it a 0 := ⟨_, e3, rfl, rfl⟩
  refine tuple_map e1 fun h₂ c hS k2 => ?_
  have I2 := I1.kp (s' := { s with heap := h₂ }) ⟨h₂, s.toks, rfl, k2⟩
  have hS0 := I1.fresh
  have hSm : h₁.objs.size ≠ mp := Nat.ne_of_gt (Heap.lt_size e1)
  have hSt : h₁.objs.size ≠ tup := Nat.ne_of_gt (Heap.lt_size e2)
  have hSi : h₁.objs.size ≠ it := Nat.ne_of_gt (Heap.lt_size e3)
  have hSN : ∀ p ∈ N, p.1 ≠ h₁.objs.size := fun p hp => by obtain ⟨o, ho, _⟩ := I1.led p hp; exact Nat.ne_of_lt (Heap.lt_size ho)
  have hit2 : h₂.IsListIter it a 0 := ⟨_, k2 _ _ e3, rfl, rfl⟩
  replace e1 := k2 _ _ e1
  replace e2 := k2 _ _ e2
  have hl2 : h₂.IsList a (strValues [(x, t), (y, u)]).toArray := ⟨_, k2 _ _ (k1 _ _ hl), rfl, n, rfl⟩
  clear e3 hit1 k2
  show codeAny _ _ _ _ { s with heap := h₂ }
  have hS0' : s₀.heap.get? h₁.objs.size = none := hS0
  dsimp only at hS ⊢
  generalize h₁.objs.size = S at *
  clear I1
  -- the changing objects
  have off : ∀ {s' : Shared} {i : Nat}, In K s₀ env m cm N s' → s'.heap.IsListIter it a i → ∀ p ∈ N, p.1 ∉ [it] := fun I hi p hp q => by
    obtain ⟨o, ho, hc, _⟩ := hi
    exact Is.ne (I.led p hp) ho (by rw [hc]; exact hN p hp) (List.mem_singleton.mp q)
  have fit : ∀ b ∈ [it], s₀.heap.get? b = none := fun b hb => by rw [List.mem_singleton.mp hb]; exact hfr
  have fS : ∀ b ∈ [S], s₀.heap.get? b = none := fun b hb => by rw [List.mem_singleton.mp hb]; exact hS0'
  have nS : ∀ p ∈ N, p.1 ∉ [S] := fun p hp q => hSN p hp (List.mem_singleton.mp q)
  have step : ∀ (σ : Shared) (i : Nat) (z : Str) (t' : Tok) (acc : Array Value) (c : Nat) (R : Result → Shared → Prop), In K s₀ env m cm N σ → σ.heap.get? mp = some (mapO tup (.ref f)) → σ.heap.get? tup = some (tupO [.ref it]) → σ.heap.IsListIter it a i → σ.heap.get? S = some (bareL acc c) →
      σ.heap.IsList a (strValues [(x, t), (y, u)]).toArray → (strValues [(x, t), (y, u)]).toArray[i]? = some (.str z t') → acc.size ≤ 50 →
      (∀ σ' c', In K s₀ env m cm N σ' → σ'.heap.get? mp = some (mapO tup (.ref f)) → σ'.heap.get? tup = some (tupO [.ref it]) → σ'.heap.IsListIter it a (i + 1) → σ'.heap.get? S = some (bareL (acc.push (.str z t')) c') →
        σ'.heap.IsList a (strValues [(x, t), (y, u)]).toArray → codeAny (model prog w) A.in1.in1 (.builtin "list.extend.loop" ⟨[.ref S, .ref mp, .ref S], []⟩) R σ') →
      codeAny (model prog w) A.in1.in1 (.builtin "list.extend.loop" ⟨[.ref S, .ref mp, .ref S], []⟩) R σ := by
    intro σ i z t' acc c R Iσ h1 h2 h3 h4 h5 h6 h7 hk
    refine ext_step (next_map h1 h2 h3 h5 h6 hn2 fun h' g3 gs => ?_)
    obtain ⟨oi, hoi, hci, hdi⟩ := id h3
    have I' := Iσ.but (t := σ.toks) fit (fun b hb => by rw [List.mem_singleton.mp hb]; exact ⟨oi, hoi, by simp [still, hdi]⟩) (off Iσ h3) (h' := h') fun b o hb e => (gs.2 b (fun q => hb (List.mem_singleton.mpr q))).trans e
    refine hf z t' _ _ I'.W fun s'' k'' => ?_
    have I'' := I'.kp k''
    have gS : s''.heap.get? S = some (bareL acc c) := Keeps.get k'' ((gs.2 S hSi).trans h4)
    refine ⟨acc, c, gS, by omega, ?_⟩
    have oth : ∀ b o, b ≠ S → s''.heap.get? b = some o → (s''.heap.update S (Obj.mapSeq (·.push (Value.str z t')))).get? b = some o := fun b o hb e => (Heap.get?_update_other _ _ (Ne.symm hb)).trans e
    have I3 := I''.but (t := s''.toks) fS (fun b hb => by rw [List.mem_singleton.mp hb]; exact ⟨_, gS, rfl⟩) nS (h' := s''.heap.update S (Obj.mapSeq (·.push (Value.str z t')))) fun b o hb e => oth b o (fun q => hb (List.mem_singleton.mpr q)) e
    obtain ⟨oj, hoj, hcj, hdj⟩ := id g3
    obtain ⟨ol, hol, hcl, hdl⟩ := id h5
    have haS : a ≠ S := hSN _ ha
    exact hk _ _ I3 (oth _ _ (Ne.symm hSm) (Keeps.get k'' ((gs.2 mp hn2).trans h1))) (oth _ _ (Ne.symm hSt) (Keeps.get k'' ((gs.2 tup hn1).trans h2)))
      ⟨oj, oth _ _ (Ne.symm hSi) (Keeps.get k'' hoj), hcj, hdj⟩ (Heap.get?_update_self _ gS rfl) ⟨ol, oth _ _ haS (Keeps.get k'' ((gs.2 a hna).trans hol)), hcl, hdl⟩
  refine step _ 0 x t #[] c _ I2 e1 e2 hit2 hS hl2 rfl (by simp) fun σ c' Iσ h1 h2 h3 h4 h5 => ?_
  refine step _ 1 y u _ c' _ Iσ h1 h2 h3 h4 h5 rfl (by simp) fun σ' c'' Iσ' h1 h2 h3 h4 h5 => ?_
  refine ext_step (next_map_end (i := 2) hh h1 h2 h3 h5 rfl fun h' he => ?_)
  obtain ⟨oi, hoi, hci, hdi⟩ := id h3
  have I' := Iσ'.but (t := σ'.toks) fit (fun b hb => by rw [List.mem_singleton.mp hb]; exact ⟨oi, hoi, by simp [still, hdi]⟩) (off Iσ' h3) (h' := h') fun b o hb e => he b o (fun q => hb (List.mem_singleton.mpr q)) e
  refine ⟨rfl, _, _, he _ _ hSi h4, by simp, ?_⟩
  exact h _ t u _ I'.new ((I'.kp Keeps.push).add ⟨_, Heap.get?_push_size _ rfl, rfl, rfl⟩)
end

/-! a set of one truth -/
def tb0 (led : Bool) : SetTable := .fresh 0 0 led
def tb1 (led : Bool) : SetTable := { mask := 7, place := #[1], dummies := #[], finger := 0, led := led, moves := 0, plain := true }
abbrev setO (es : Array (Int × Value)) (ep : Nat) (t : SetTable) : Obj := { cls := .type "set", dict := none, data := .set es ep t, slots := #[] }
theorem lay1 (led : Bool) : layNew (tb0 led) #[] 1 (.bool true) = (#[(1, .bool true)], tb1 led, false, false) := by
  cases led <;> rfl
section
variable {prog : Program} {w : World} {A : Around} {E : Value → Shared → Prop} {s : Shared}
theorem hash_true {Q : Int → Shared → Prop} (h : Q 1 { s with toks := s.toks + 1 }) : wpAny (model prog w) A (pyHash (.bool true)) Q E s := by
  have hT : s.TypeIs (.bool true) "bool" := rfl
  unfold pyHash
  have hv : [Value.bool true].any Value.onHeap = false := rfl
  refine wpAny_bind ?_
  rw [cRoomFor, if_neg (by rw [hv]; exact Bool.false_ne_true)]; refine wpAny_pure ?_
  refine wpAny_bind (wpAny_specialOf hT F.slot_bool_hash.lookup ?_)
  show wpAny _ _ (if (some (Value.builtin "int.__hash__") == some Value.none) = true then _ else _) Q E s
  rw [if_neg (by rw [beq_builtin_none]; exact Bool.false_ne_true)]
  refine wpAny_bind (wpAny_specialOf hT F.slot_bool_hash.lookup ?_)
  show wpAny _ _ (callSpecialIfBoundUnlessNone? (.bool true) "__hash__" _ >>= _) Q E s
  refine wpAny_bind (wpAny_callSpecialIfBoundUnlessNone?_slot hT F.slot_bool_hash (wpAny_call_entry F.slot_bool_hash hT entry_int_hash (show wpAny _ _ (do ret (← mkInt (rawHash 1))) _ _ s from wpAny_ret_mkInt ?_) (args_int_hash _)))
  have hr := rawHash_range 1
  show wpAny _ _ (if (decide (-(2 : Int) ^ 63 ≤ rawHash 1) && decide (rawHash 1 < 2 ^ 63)) = true then _ else _) Q E _
  rw [if_pos (by rw [decide_eq_true hr.1, decide_eq_true hr.2]; rfl)]
  exact wpAny_pure h

theorem set_add0 {a : Addr} {ep : Nat} {led : Bool} {Q : Value → Shared → Prop} (ho : s.heap.get? a = some (setO #[] ep (tb0 led)))
    (h : ∀ h', Heap.SameBut a s.heap h' → h'.get? a = some (setO #[(1, .bool true)] (ep + 1) (tb1 led)) → Q .none { s with heap := h', toks := s.toks + 1 }) :
    wpAny (model prog w) A (call (.builtin "set.add") [.ref a, .bool true]) Q E s := by
  have hT : s.TypeIs (.ref a) "set" := ⟨_, ho, rfl⟩
  refine wpAny_call_entry F.slot_set_add hT F.entry_set_add ?_ (F.args_set_add_2 _ _)
  unfold Builtin.«set.add» Builtin.Frozenset.oneOther
  simp only [List.isEmpty_nil, bind_assoc]
  unfold Builtin.Frozenset.addrOf setAdd
  refine wpAny_bind (wpAny_pure ?_)
  try dsimp only
  refine wpAny_bind (wpAny_pure ?_)
  try dsimp only
  refine wpAny_bind (wpAny_holding (wpAny_bind (hash_true ?_)))
  unfold setAddHashed setAddHashedIn
  refine wpAny_holding (wpAny_bind (wpAny_setState_of (s := { s with toks := s.toks + 1 }) ho rfl (by cases led <;> rfl) ?_))
  dsimp only
  rw [show byScan (.bool true) #[] = true by simp [byScan, Value.scannable, scanBound]]
  simp only [↓reduceIte]
  unfold setAddByScan
  refine wpAny_bind (wpAny_bind (wpAny_rule ?_))
  refine wpAny_bind (show wpAny _ _ (setScanFrom a (.bool true) 1 true [] 0) _ _ _ from wpAny_pure ?_)
  dsimp only
  rw [lay1]
  dsimp only
  refine wpAny_bind (wpAny_pure ?_)
  rw [if_pos (show (tb1 led).plain = true from rfl)]
  refine wpAny_bind (show wpAny _ _ (hashByValue 8 (.bool true)) _ _ _ from wpAny_pure ?_)
  rw [if_pos rfl]
  refine wpAny_bind (wpAny_storeSet_of (s := { s with toks := s.toks + 1 }) ho rfl ?_ (by rw [sizeLine_eq]; simp))
  rw [if_neg (by rw [show (tb1 led).tooFull = false by cases led <;> decide]; decide)]
  refine wpAny_pure (wpAny_pure (wpAny_pure ⟨_, rfl, h _ (Heap.SameBut.update ..) ?_⟩))
  exact Heap.get?_update_self _ ho rfl

theorem set_add1 {a : Addr} {ep : Nat} {led : Bool} {Q : Value → Shared → Prop} (ho : s.heap.get? a = some (setO #[(1, .bool true)] ep (tb1 led)))
    (h : Q .none { s with toks := s.toks + 1 }) : wpAny (model prog w) A (call (.builtin "set.add") [.ref a, .bool true]) Q E s := by
  have hT : s.TypeIs (.ref a) "set" := ⟨_, ho, rfl⟩
  refine wpAny_call_entry F.slot_set_add hT F.entry_set_add ?_ (F.args_set_add_2 _ _)
  unfold Builtin.«set.add» Builtin.Frozenset.oneOther
  simp only [List.isEmpty_nil, bind_assoc]
  unfold Builtin.Frozenset.addrOf setAdd
  refine wpAny_bind (wpAny_pure ?_)
  try dsimp only
  refine wpAny_bind (wpAny_pure ?_)
  try dsimp only
  refine wpAny_bind (wpAny_holding (wpAny_bind (hash_true ?_)))
  unfold setAddHashed setAddHashedIn
  have hst : ∀ {α : Type} {Q' : Array (Int × Value) × Nat × SetTable → Shared → Prop} {E' : Value → Shared → Prop}, Q' (#[(1, .bool true)], ep, tb1 led) { s with toks := s.toks + 1 } → wpAny (model prog w) A.in1 (setState a) Q' E' { s with toks := s.toks + 1 } :=
    fun q => wpAny_setState_of (s := { s with toks := s.toks + 1 }) ho rfl (by cases led <;> rfl) q
  refine wpAny_holding (wpAny_bind (hst (α := Unit) ?_))
  dsimp only
  rw [show byScan (.bool true) #[(1, .bool true)] = true by simp [byScan, Value.scannable, scanBound]]
  simp only [↓reduceIte]
  unfold setAddByScan
  refine wpAny_bind (wpAny_bind (wpAny_rule ?_))
  refine wpAny_bind (show wpAny _ _ (setScanFrom a (.bool true) 1 true [(1, .bool true)] 0) _ _ _ from ?_)
  unfold setScanFrom
  rw [if_pos (by decide)]
  unfold setEpoch
  refine wpAny_bind (wpAny_bind (hst (α := Unit) (wpAny_pure ?_)))
  refine wpAny_bind ?_
  · unfold eqBool
    refine wpAny_holding ?_
    rw [if_pos (by decide)]
    refine wpAny_bind (wpAny_rule (wpAny_pure ?_))
    rw [if_pos (by decide)]
    exact wpAny_pure (wpAny_pure (wpAny_pure (wpAny_pure ⟨_, rfl, h⟩)))
end

namespace SF
theorem entry_set_iter : entryFor table "set.__iter__" = some Builtin.«frozenset.__iter__» :=
  entryFor_alias (id' := "frozenset.__iter__") (by kernel_rfl) (by first | rfl | decide +kernel | (unfold String.splitOn; simp +decide [String.splitOnAux])) (by decide +kernel) (by kernel_rfl)
theorem slot_next : Slot "set_iterator" "__next__" "set_iterator.__next__" :=
  .of (owner := "set_iterator") (n := "__next__") (by rw [typeLookup_type, builtinLookup_eq_fast]; kernel_rfl) (by decide +kernel) (by decide +kernel) (by decide +kernel)
    (by first | exact .inl (by decide +kernel) | exact .inr (by decide +kernel)) (by rw [isSubtype_type]; kernel_rfl)
theorem owner_si : Manifest.owners.lookup (String.ofList ['r', 'o', 't', 'a', 'r', 'e', 't', 'i', '_', 't', 'e', 's'].reverse) = some Manifest.sig_set_iterator := by kernel_rfl
theorem args_next (a : Value) : argsOk "set_iterator.__next__" ⟨[a], []⟩ := by
  unfold argsOk; rw [signature?_of (id := "set_iterator.__next__") (n := ['_', '_', 't', 'x', 'e', 'n', '_', '_']) (o := ['r', 'o', 't', 'a', 'r', 'e', 't', 'i', '_', 't', 'e', 's']) (by kernel_rfl) owner_si]; kernel_rfl
theorem entry_next : entryFor table "set_iterator.__next__" = some Builtin.«set_iterator.__next__» := entryFor_of_tree (by kernel_rfl)
end SF
abbrev siO (f i : Int) (a : Addr) (ep : Nat) : Obj := { cls := .type "set_iterator", data := .fields #[rawInt f, rawInt i, .ref a, rawInt 1, rawInt ep] }
section
variable {prog : Program} {w : World} {A : Around} {E : Value → Shared → Prop} {s : Shared}
theorem st_set {a : Addr} {ep : Nat} {led : Bool} {Q : Array (Int × Value) × Nat × SetTable → Shared → Prop} (ho : s.heap.get? a = some (setO #[(1, .bool true)] ep (tb1 led))) (h : Q (#[(1, .bool true)], ep, tb1 led) s) : wpAny (model prog w) A (setState a) Q E s :=
  wpAny_setState_of ho rfl (by cases led <;> rfl) h
theorem iter_set {a : Addr} {ep : Nat} {led : Bool} {Q : Value → Shared → Prop} (ho : s.heap.get? a = some (setO #[(1, .bool true)] ep (tb1 led)))
    (h : Q (.ref s.heap.objs.size) { s with heap := s.heap.push (siO 0 0 a ep) }) : wpAny (model prog w) A (pyIter (.ref a)) Q E s := by
  have hT : s.TypeIs (.ref a) "set" := ⟨_, ho, rfl⟩
  refine wpAny_pyIter_slot hT F.slot_set_iter (wpAny_call_entry F.slot_set_iter hT SF.entry_set_iter ?_ (F.args_set_iter_1 _))
  unfold Builtin.«frozenset.__iter__» Builtin.Frozenset.sizeOf setEntries setDrawn setsByText setEpoch
  refine wpAny_bind (wpAny_of_eq (a := a) rfl ?_)
  refine wpAny_bind (wpAny_bind (wpAny_bind (st_set ho (wpAny_pure (wpAny_pure ?_)))))
  refine wpAny_bind (wpAny_bind (st_set ho ?_))
  dsimp only
  refine wpAny_bind (wpAny_bind (wpAny_askSetting (wpAny_pure (wpAny_pure ?_))))
  rw [if_neg (fun q => by rw [Bool.and_eq_true] at q; exact absurd q.2 Bool.false_ne_true)]
  refine wpAny_bind (wpAny_pure (wpAny_bind (wpAny_bind (st_set ho (wpAny_pure ?_)))))
  exact wpAny_bind (wpAny_newObj_type (wpAny_pure ⟨_, rfl, "set_iterator", _, ⟨_, Heap.get?_push_size _ rfl, rfl⟩, SF.slot_next.lookup, h⟩))

theorem pick1 (f : Nat → Nat) (x : Int × Value) : pickOrder f #[x] = #[x] := by
  unfold pickOrder
  show pickOrder.go f 1 0 [x] #[] = _
  unfold pickOrder.go
  simp [Nat.mod_one, pickOrder.go]
theorem setNext0 {a : Addr} {ep : Nat} {led : Bool} {Q : Option (Value × Nat) → Shared → Prop} (ho : s.heap.get? a = some (setO #[(1, .bool true)] ep (tb1 led))) (hled : led = !w.params.followText "set-order")
    (h : Q (some (.bool true, if w.params.followText "set-order" = true then 0 else 2)) s) : wpAny (model prog w) A (setNext a 0 0 ep) Q E s := by
  unfold setNext setsByText
  refine wpAny_bind (st_set ho ?_)
  dsimp only
  refine wpAny_bind (wpAny_bind (wpAny_askSetting (wpAny_pure ?_)))
  show wpAny _ _ (if w.params.followText "set-order" = true then _ else _) _ _ _
  by_cases hb : w.params.followText "set-order" = true
  · rw [if_pos hb] at h ⊢
    rw [if_neg (by simp)]
    unfold setWalk setsByText
    refine wpAny_bind (wpAny_bind (st_set ho ?_))
    dsimp only
    refine wpAny_bind (wpAny_bind (wpAny_askSetting (wpAny_pure ?_)))
    show wpAny _ _ (if w.params.followText "set-order" = true then _ else _) _ _ _
    rw [if_pos hb]
    refine wpAny_bind (wpAny_askSetting (wpAny_pure ?_))
    rw [pick1]
    exact wpAny_pure h
  · rw [if_neg hb] at h ⊢
    rw [if_neg (fun q => by exact absurd q Bool.false_ne_true)]
    have hl : led = true := by rw [hled]; simpa using hb
    subst hl
    refine wpAny_bind (wpAny_of_eq (a := ()) (by rfl) ?_)
    exact wpAny_pure h
theorem setNext1 {a : Addr} {ep : Nat} {led : Bool} {Q : Option (Value × Nat) → Shared → Prop} (ho : s.heap.get? a = some (setO #[(1, .bool true)] ep (tb1 led))) (hled : led = !w.params.followText "set-order")
    (h : Q none s) : wpAny (model prog w) A (setNext a (if w.params.followText "set-order" = true then 0 else 2) 1 ep) Q E s := by
  unfold setNext setsByText
  refine wpAny_bind (st_set ho ?_)
  dsimp only
  refine wpAny_bind (wpAny_bind (wpAny_askSetting (wpAny_pure ?_)))
  show wpAny _ _ (if w.params.followText "set-order" = true then _ else _) _ _ _
  by_cases hb : w.params.followText "set-order" = true
  · rw [if_pos hb]
    rw [if_neg (by simp)]
    unfold setWalk setsByText
    refine wpAny_bind (wpAny_bind (st_set ho ?_))
    dsimp only
    refine wpAny_bind (wpAny_bind (wpAny_askSetting (wpAny_pure ?_)))
    show wpAny _ _ (if w.params.followText "set-order" = true then _ else _) _ _ _
    rw [if_pos hb]
    refine wpAny_bind (wpAny_askSetting (wpAny_pure ?_))
    rw [pick1]
    exact wpAny_pure h
  · rw [if_neg hb]
    rw [if_neg (fun q => by exact absurd q Bool.false_ne_true)]
    have hl : led = true := by rw [hled]; simpa using hb
    subst hl
    refine wpAny_bind (wpAny_of_eq (a := ()) (by rfl) ?_)
    rw [if_neg hb]
    exact wpAny_pure h

end

section
variable {prog : Program} {w : World} {A : Around} {E : Value → Shared → Prop} {s : Shared}
def fst1 (w : World) : Nat := if w.params.followText "set-order" = true then 0 else 2
theorem next_set {it a : Addr} {ep : Nat} {led : Bool} {Q : Option Value → Shared → Prop} (ho : s.heap.get? a = some (setO #[(1, .bool true)] ep (tb1 led))) (hled : led = !w.params.followText "set-order")
    (hi : s.heap.get? it = some (siO 0 0 a ep)) (h : ∀ h', Heap.SameBut it s.heap h' → h'.get? it = some (siO (fst1 w : Nat) 1 a ep) → Q (some (.bool true)) { s with heap := h' }) :
    wpAny (model prog w) A (pyNext (.ref it)) Q E s := by
  have hT : s.TypeIs (.ref it) "set_iterator" := ⟨_, hi, rfl⟩
  unfold pyNext
  refine wpAny_bind (wpAny_attempt (wpAny_callSpecial?_slot (name := Str.ofString "__next__") hT SF.slot_next (wpAny_call_entry SF.slot_next hT SF.entry_next ?_ (SF.args_next _))))
  unfold Builtin.«set_iterator.__next__»
  refine wpAny_bind (wpAny_of_eq (a := (Value.ref it, [])) rfl ?_)
  dsimp only
  have hf : ∀ {Q' : Array Value → Shared → Prop} {E' : Value → Shared → Prop}, Q' #[rawInt 0, rawInt 0, .ref a, rawInt 1, rawInt ep] s → wpAny (model prog w) A.in1 (fieldsOf (.ref it)) Q' E' s := fun q => by
    unfold fieldsOf
    exact wpAny_bind (wpAny_load hi (wpAny_pure q))
  refine wpAny_bind (hf ?_)
  show wpAny _ _ (setEntries a >>= _) _ _ _
  unfold setEntries
  refine wpAny_bind (wpAny_bind (st_set ho (wpAny_pure ?_)))
  rw [if_neg (by simp)]
  show wpAny _ _ (setNext a 0 0 ep >>= _) _ _ _
  refine wpAny_bind (setNext0 ho hled ?_)
  dsimp only
  refine wpAny_bind (wpAny_setField_rec hi (by simp) fun h₁ e1 s1 => ?_)
  refine wpAny_bind (wpAny_setField_rec e1 (by simp) fun h₂ e2 s2 => ?_)
  exact wpAny_pure ⟨_, rfl, wpAny_pure (h h₂ (Heap.SameBut.trans s1 s2) e2)⟩

theorem next_set_end {it a : Addr} {ep : Nat} {led : Bool} {Q : Option Value → Shared → Prop} (hh : A.handled = none) (ho : s.heap.get? a = some (setO #[(1, .bool true)] ep (tb1 led))) (hled : led = !w.params.followText "set-order")
    (hi : s.heap.get? it = some (siO (fst1 w : Nat) 1 a ep)) (h : ∀ h', Heap.ExtBut it s.heap h' → Q none { s with heap := h' }) :
    wpAny (model prog w) A (pyNext (.ref it)) Q E s := by
  have hT : s.TypeIs (.ref it) "set_iterator" := ⟨_, hi, rfl⟩
  unfold pyNext
  refine wpAny_bind (wpAny_attempt (wpAny_callSpecial?_slot (name := Str.ofString "__next__") hT SF.slot_next (wpAny_call_entry SF.slot_next hT SF.entry_next ?_ (SF.args_next _))))
  unfold Builtin.«set_iterator.__next__»
  refine wpAny_bind (wpAny_of_eq (a := (Value.ref it, [])) rfl ?_)
  dsimp only
  have hf : ∀ {Q' : Array Value → Shared → Prop} {E' : Value → Shared → Prop}, Q' #[rawInt (fst1 w : Nat), rawInt 1, .ref a, rawInt 1, rawInt ep] s → wpAny (model prog w) A.in1 (fieldsOf (.ref it)) Q' E' s := fun q => by
    unfold fieldsOf
    exact wpAny_bind (wpAny_load hi (wpAny_pure q))
  refine wpAny_bind (hf ?_)
  show wpAny _ _ (setEntries a >>= _) _ _ _
  unfold setEntries
  refine wpAny_bind (wpAny_bind (st_set ho (wpAny_pure ?_)))
  rw [if_neg (by simp)]
  show wpAny _ _ (setNext a (fst1 w) 1 ep >>= _) _ _ _
  refine wpAny_bind (setNext1 ho hled ?_)
  dsimp only
  refine wpAny_bind (wpAny_setField_rec hi (by simp) fun h₁ e1 s1 => ?_)
  show wpAny _ _ (newExc (.type "StopIteration") [] >>= _) _ _ _
  refine wpAny_bind ?_
  simp only [newExc, newTuple]
  refine wpAny_bind (wpAny_newObj_type ?_ (by size_fits))
  refine wpAny_bind (m := firstArgMember _ _) (wpAny_of_eq (a := Value.none) (by first | rfl | (simp only [firstArgMember]; rfl)) ?_)
  refine wpAny_newObj_type ?_ (by size_fits)
  simp only [raiseNew]
  refine wpAny_bind (wpAny_handled ?_)
  first | rw [show A.in1.handled = none from hh] | rw [hh]
  refine wpAny_bind (wpAny_pure (wpAny_throw ?_))
  refine wpAny_bind (wpAny_isInstance (T := "StopIteration") (b := true) ⟨_, Heap.get?_push_size _ rfl, rfl⟩ isSubtype_stop ?_)
  exact wpAny_pure (h _ ((s1.extBut.push _).push _))

theorem unpack_set {a : Addr} {ep : Nat} {led : Bool} {Q : List Value → Shared → Prop} (hh : A.handled = none) (ho : s.heap.get? a = some (setO #[(1, .bool true)] ep (tb1 led))) (hled : led = !w.params.followText "set-order")
    (hQ : ∀ h', Heap.ExtBut s.heap.objs.size s.heap h' → Q [.bool true] { s with heap := h' }) : wpAny (model prog w) A (unpackItems (.ref a) 1 none) Q E s := by
  have hT : s.TypeIs (.ref a) "set" := ⟨_, ho, rfl⟩
  have hla : a ≠ s.heap.objs.size := Nat.ne_of_lt (Heap.lt_size ho)
  unfold unpackItems
  refine wpAny_bind ?_
  unfold notIterableAtAll
  refine wpAny_bind (wpAny_specialOf hT F.slot_set_iter.lookup ?_)
  refine wpAny_pure ?_
  simp only [Bool.false_eq_true, if_false]
  refine wpAny_bind (wpAny_holding (iter_set ho ?_))
  refine wpAny_bind (wpAny_holding ?_)
  show wpAny _ _ (pyNext (.ref s.heap.objs.size) >>= _) _ _ _
  refine wpAny_bind (next_set (Heap.get?_push_of_some _ ho) hled (Heap.get?_push_size _ rfl) fun h₁ s1 e1 => ?_)
  refine wpAny_bind (wpAny_holding (wpAny_pure (wpAny_pure ?_)))
  rw [if_neg (by simp)]
  have ho1 : h₁.get? a = some (setO #[(1, .bool true)] ep (tb1 led)) := (s1.2 a hla).trans (Heap.get?_push_of_some _ ho)
  refine wpAny_bind (wpAny_holding (next_set_end (s := { s with heap := h₁ }) hh ho1 hled e1 fun h₂ he => ?_))
  simp only [Option.isSome_none, Bool.false_eq_true, if_false]
  exact wpAny_pure (hQ h₂ fun b o hb e => he b o hb (s1.extBut b o hb (Heap.get?_push_of_some _ e)))
end

/-! the set comprehension -/
/-- an address that none of the frame's facts is about -/
structure Off (s₀ : Shared) (env : Env) (N : List (Addr × Kd)) (b : Addr) : Prop where
  base : s₀.heap.get? b = none
  loc : b ≠ env.locals
  cell : ∀ n c, env.cells.lookup n = some c → b ≠ c
  led : ∀ p ∈ N, p.1 ≠ b
section
variable {K : Frag} {s₀ s : Shared} {env : Env} {m cm : Str → Option Value} {N : List (Addr × Kd)}
theorem In.off (I : In K s₀ env m cm N s) {b : Addr} (h : s.heap.objs.size ≤ b) : Off s₀ env N b := by
  refine ⟨?_, Nat.ne_of_gt (Nat.lt_of_lt_of_le I.ns.lt h), fun n c hc => ?_, fun p hp => ?_⟩
  · cases e : s₀.heap.get? b with
    | none => rfl
    | some o => exact absurd (Heap.lt_size (I.old e)) (Nat.not_lt.mpr h)
  · obtain ⟨o, e, _⟩ := I.cell n c hc
    exact Nat.ne_of_gt (Nat.lt_of_lt_of_le (Heap.lt_size e) h)
  · obtain ⟨o, e, _⟩ := I.led p hp
    exact Nat.ne_of_lt (Nat.lt_of_lt_of_le (Heap.lt_size e) h)
theorem In.one (I : In K s₀ env m cm N s) {b : Addr} (F : Off s₀ env N b) {h' : Heap} {t : Nat} (hk : ∀ c o, c ≠ b → s.heap.get? c = some o → h'.get? c = some o) : In K s₀ env m cm N { s with heap := h', toks := t } := by
  refine ⟨?_, ?_, fun n c hc => ?_, fun p hp => (I.led p hp).keeps fun o e => hk _ _ (F.led p hp) e, I.wd⟩
  · obtain ⟨h, t', rfl, k⟩ := I.ks
    exact ⟨h', t, rfl, fun c o e => hk c o (fun q => by rw [q, F.base] at e; cases e) (k c o e)⟩
  · obtain ⟨oL, es, ep, hL, r⟩ := id I.ns
    exact ⟨oL, es, ep, hk _ _ (Ne.symm F.loc) hL, r⟩
  · obtain ⟨oc, e, r⟩ := id (I.cell n c hc)
    exact ⟨oc, hk _ _ (Ne.symm (F.cell n c hc)) e, r⟩
theorem In.inner (I : In K s₀ env m cm N s) {scope : Scope} {cl : List (Str × Addr)} {C : Addr} {m₃ : Str → Option Value} (hcl : ∀ n c, cl.lookup n = some c → env.cells.lookup n = some c) (hn : s.heap.Ns C m₃) : In K s (compEnvC scope cl C env) m₃ cm N s :=
  ⟨Keeps.refl' _, hn, fun n c h => I.cell n c (hcl n c h), I.led, I.W⟩
end

section
variable {prog : Program} {w : World} {A : Around} {E : Value → Shared → Prop} {R : Result → Shared → Prop} {s : Shared}
theorem set_start {elt iter : Expr} {target : Expr} {ifs : List Expr} {scope : Scope} {pos : Pos} {it acc : Value} {env : Env}
    (h0 : codeAny (model prog w) A (.compLoop (.SetComp elt [⟨target, iter, ifs, 0⟩] scope pos) 0 it acc env) R s)
    (h : wpAny (model prog w) A (pyIter it) (fun it' s' => codeAny (model prog w) A (.compLoop (.SetComp elt [⟨target, iter, ifs, 0⟩] scope pos) 0 it' acc env) R s')
      (notedBy (model prog w) A env fun x s' => R (.error x) s') s) :
    codeAny (model prog w) A (.compStart (.SetComp elt [⟨target, iter, ifs, 0⟩] scope pos) 0 it acc env) R s := by
  refine codeAny_of_tree ?_
  show wpAny _ A ((compStart (.SetComp elt [⟨target, iter, ifs, 0⟩] scope pos) 0 it acc env).onRaise (fun x => do noteFrame x env; standAt theWindowsPlace)) _ _ s
  refine wpAny_notedAt ?_
  unfold compStart
  show wpAny _ A (ask >>= _) _ _ s
  refine wpAny_bind (wpAny_askSetting (wpAny_ite ?_))
  split
  · first
      | exact wpAny_bind (wpAny_pure (wpAny_pure (And.intro rfl h0)))
      | exact wpAny_pure (And.intro rfl h0)
  · first
      | exact wpAny_bind (wpAny_rule (wpAny_bind (wpAny_standAt (wpAny_bind (wpAny_mono h (fun it' s' h' => wpAny_pure (And.intro rfl h')) fun _ _ x => x)))))
      | (refine wpAny_bind (wpAny_rule ?_); show wpAny _ _ (standAt iter.pos >>= _) _ _ s; exact wpAny_bind (wpAny_standAt (wpAny_bind (wpAny_mono h (fun it' s' h' => wpAny_pure (And.intro rfl h')) fun _ _ x => x))))
theorem compTurn_set (elt iter : Expr) (x : Str) (px : Pos) (scope : Scope) (pos : Pos) (it acc : Value) (env : Env) :
    compTurn (.SetComp elt [⟨.Name x px, iter, [], 0⟩] scope pos) 0 it acc env = (do
      standAt iter.pos
      match ← pyNext it with
      | none => pure (.done .next)
      | some v =>
        letOwnedTupleGo (.Name x px) it v
        assign (.Name x px) env v
        (do let v ← eval elt env; standAt elt.pos; let _ ← call (.builtin "set.add") [acc, v])
        again (.compLoop (.SetComp elt [⟨.Name x px, iter, [], 0⟩] scope pos) 0 it acc env)) := by rfl
theorem set_turn {elt iter : Expr} {x : Str} {px : Pos} {scope : Scope} {pos : Pos} {it acc : Value} {env : Env}
    (h : wpAny (model prog w) A (pyNext it) (fun r s₁ => match r with
      | none => R (.ok .next) s₁
      | some v => wpAny (model prog w) A (assign (.Name x px) env v) (fun _ s₂ => wpAny (model prog w) A (eval elt env) (fun y s₃ => wpAny (model prog w) A (call (.builtin "set.add") [acc, y])
          (fun _ s₄ => codeAny (model prog w) A (.compLoop (.SetComp elt [⟨.Name x px, iter, [], 0⟩] scope pos) 0 it acc env) R s₄) (fun _ _ => False) s₃) (fun _ _ => False) s₂) (fun _ _ => False) s₁) (fun _ _ => False) s) :
    codeAny (model prog w) A (.compLoop (.SetComp elt [⟨.Name x px, iter, [], 0⟩] scope pos) 0 it acc env) R s := by
  refine codeAny_of_tree ?_
  show wpAny _ A ((compTurn (.SetComp elt [⟨.Name x px, iter, [], 0⟩] scope pos) 0 it acc env).onRaise (fun x => do noteFrame x env; theTreesLotGoes x)) _ _ s
  refine wpAny_noted ?_
  rw [compTurn_set]
  refine wpAny_bind (wpAny_standAt (wpAny_bind (wpAny_mono h (fun r s₁ h₁ => ?_) fun _ _ h' => h'.elim)))
  cases r with
  | none => exact wpAny_pure h₁
  | some v =>
    refine wpAny_bind (wpAny_of_eq (a := ()) rfl ?_)
    refine wpAny_bind (wpAny_mono h₁ (fun _ s₂ h₂ => ?_) fun _ _ h' => h'.elim)
    refine wpAny_bind (wpAny_bind (wpAny_mono h₂ (fun y s₃ h₃ => wpAny_bind (wpAny_standAt ?_)) fun _ _ h' => h'.elim))
    refine wpAny_bind (wpAny_mono h₃ (fun _ s₄ h₄ => ?_) fun _ _ h' => h'.elim)
    exact wpAny_pure (wpAny_pure ⟨rfl, h₄⟩)
end

section
variable {K : Frag} {s₀ s : Shared} {env : Env} {prog : Program} {w : World} {A : Around} {E : Value → Shared → Prop} {Q : Value → Shared → Prop}
theorem setcomp_two {elt iter : Expr} {x : Str} {px : Pos} {scope : Scope} {cl : List (Str × Addr)} {pos : Pos}
    (hclos : closureFor scope env = pure cl) (hcl : ∀ n c, cl.lookup n = some c → env.cells.lookup n = some c) (hcell : ∀ y ∈ scope.names, y.2 ≠ .cell) (hkind : scope.kind = .function)
    (hnames : ∀ y ∈ scope.names, y.2 = .local → scope.names.lookup y.1 = some .local) (hx : scope.names.lookup x = some .local) (hh : A.handled = none)
    (h : wpAny (model prog w) A (eval iter env) (fun xv s₁ => ∃ m cm N a v₁ v₂, xv = .ref a ∧ In K s₀ env m cm N s₁ ∧ (a, .ob (tupO [v₁, v₂])) ∈ N ∧
      (∀ v, v = v₁ ∨ v = v₂ → ∀ C s₃ m₃, In K s₃ (compEnvC scope cl C env) m₃ cm N s₃ → m₃ x = some v → wpAny (model prog w) A (eval elt (compEnvC scope cl C env)) (fun y s₄ => y = .bool true ∧ Keeps s₃ s₄) (fun _ _ => False) s₃) ∧
      (∀ D ep s', s'.heap.get? D = some (setO #[(1, .bool true)] ep (tb1 (!w.params.followText "set-order"))) → s₀.heap.get? D = none → In K s₀ env m cm N s' → Q (.ref D) s')) E s)
    (hs : ∀ x, foldedSetIterable iter env x = pure x := by intro _; rfl) :
    wpAny (model prog w) A (eval (.SetComp elt [⟨.Name x px, iter, [], 0⟩] scope pos) env) Q E s := by
  rw [arm_eval_SetComp]
  refine wpAny_comprehension_free (use := none) rfl hs hclos hkind hnames (wpAny_mono h (fun xv s₁ h₁ => ?_) fun _ _ e => e)
  obtain ⟨m, cm, N, a, v₁, v₂, rfl, I, ha, helt, hQ⟩ := h₁
  have htup : ∀ {s' : Shared}, In K s₀ env m cm N s' → s'.heap.IsTuple a #[v₁, v₂] := fun I => ⟨_, (I.get ha).ob, rfl, _, rfl⟩
  refine wpAny_pyIter_tuple (htup I) ?_
  have Fit := I.off (Nat.le_refl _)
  have hit : ({ s₁ with heap := s₁.heap.push { cls := .type "tuple_iterator", data := .fields #[.ref a, .int 0 0] } } : Shared).heap.IsTupleIter s₁.heap.objs.size a 0 := ⟨_, Heap.get?_push_size _ rfl, rfl, rfl⟩
  have I' := I.kp (s' := { s₁ with heap := s₁.heap.push { cls := .type "tuple_iterator", data := .fields #[.ref a, .int 0 0] } }) Keeps.push
  generalize s₁.heap.objs.size = it at Fit hit ⊢
  generalize ({ s₁ with heap := s₁.heap.push { cls := .type "tuple_iterator", data := .fields #[.ref a, .int 0 0] } } : Shared) = s₂ at hit I' ⊢
  clear I
  unfold newSet setsByText
  refine wpAny_bind (wpAny_bind (wpAny_askSetting (wpAny_pure ?_)))
  dsimp only
  refine wpAny_newObj_type ?_
  have FD := I'.off (Nat.le_refl _)
  have hD0 : ({ s₂ with heap := s₂.heap.push { cls := .type "set", data := .set #[] 0 (.fresh 0 0 (!w.params.followText "set-order")) } } : Shared).heap.get? s₂.heap.objs.size = some (setO #[] 0 (tb0 (!w.params.followText "set-order"))) := Heap.get?_push_size _ rfl
  have I3 := I'.kp (s' := { s₂ with heap := s₂.heap.push { cls := .type "set", data := .set #[] 0 (.fresh 0 0 (!w.params.followText "set-order")) } }) Keeps.push
  have hit3 : ({ s₂ with heap := s₂.heap.push { cls := .type "set", data := .set #[] 0 (.fresh 0 0 (!w.params.followText "set-order")) } } : Shared).heap.IsTupleIter it a 0 := by
    obtain ⟨o, e, r⟩ := hit
    exact ⟨o, Heap.get?_push_of_some _ e, r⟩
  have hDi : s₂.heap.objs.size ≠ it := by obtain ⟨o, e, _⟩ := hit; exact Nat.ne_of_gt (Heap.lt_size e)
  show wpAny _ _ _ _ _ ({ s₂ with heap := s₂.heap.push { cls := .type "set", data := .set #[] 0 (.fresh 0 0 (!w.params.followText "set-order")) } } : Shared)
  generalize s₂.heap.objs.size = D at FD hD0 hDi ⊢
  generalize ({ s₂ with heap := s₂.heap.push { cls := .type "set", data := .set #[] 0 (.fresh 0 0 (!w.params.followText "set-order")) } } : Shared) = s₃ at hD0 I3 hit3 ⊢
  clear I' hit
  generalize hled : (!w.params.followText "set-order") = led at hD0 hQ
  refine wpAny_newFunctionEnv hcell (by intro y hy; simp at hy) (fun h₁ hns₁ hsb₁ => ?_) hkind
  have FC := I3.off (Nat.le_refl _)
  have hCi : s₃.heap.objs.size ≠ it := by obtain ⟨o, e, _⟩ := hit3; exact Nat.ne_of_gt (Heap.lt_size e)
  have hCD : s₃.heap.objs.size ≠ D := Nat.ne_of_gt (Heap.lt_size hD0)
  have kk : ∀ b o, s₃.heap.get? b = some o → h₁.get? b = some o := fun b o e => hsb₁.extBut b o (Nat.ne_of_lt (Heap.lt_size e)) (Heap.get?_push_of_some _ e)
  have I4 := I3.kp (s' := { s₃ with heap := h₁, toks := s₃.toks + ([] : List (Str × Value)).length }) ⟨h₁, _, rfl, kk⟩
  have hit4 : h₁.IsTupleIter it a 0 := by obtain ⟨o, e, r⟩ := hit3; exact ⟨o, kk _ _ e, r⟩
  replace hD0 := kk _ _ hD0
  clear hit3 hsb₁ kk
  generalize s₃.heap.objs.size = C at FC hCi hCD hns₁ ⊢
  show codeAny _ _ (.compStart _ 0 _ _ (compEnvC scope cl C env)) (compPost _ _ _ _ _ _ C) _
  have hns₂ : ({ s₃ with heap := h₁, toks := s₃.toks + ([] : List (Str × Value)).length } : Shared).heap.Ns C (fun x => ([] : List (Str × Value)).reverse.lookup x) := hns₁
  have hit5 : ({ s₃ with heap := h₁, toks := s₃.toks + ([] : List (Str × Value)).length } : Shared).heap.IsTupleIter it a 0 := hit4
  have hD5 : ({ s₃ with heap := h₁, toks := s₃.toks + ([] : List (Str × Value)).length } : Shared).heap.get? D = some (setO #[] 0 (tb0 led)) := hD0
  generalize ({ s₃ with heap := h₁, toks := s₃.toks + ([] : List (Str × Value)).length } : Shared) = σ₀ at I4 hns₂ hit5 hD5 ⊢
  generalize (fun x => ([] : List (Str × Value)).reverse.lookup x) = mc at hns₂
  clear hns₁ hit4 hD0 I3
  have step : ∀ (σ : Shared) (i : Nat) (v : Value) (mc : Str → Option Value) (d d' : Obj) (R : Result → Shared → Prop), In K s₀ env m cm N σ → σ.heap.Ns C mc → σ.heap.IsTupleIter it a i → σ.heap.get? D = some d → #[v₁, v₂][i]? = some v → (v = v₁ ∨ v = v₂) →
      (∀ (σ' : Shared) (Q' : Value → Shared → Prop), σ'.heap.get? D = some d → (∀ h' t, Heap.SameBut D σ'.heap h' → h'.get? D = some d' → Q' .none { σ' with heap := h', toks := t }) → wpAny (model prog w) A (call (.builtin "set.add") [.ref D, .bool true]) Q' (fun _ _ => False) σ') →
      (∀ σ' mc', In K s₀ env m cm N σ' → σ'.heap.Ns C mc' → σ'.heap.IsTupleIter it a (i + 1) → σ'.heap.get? D = some d' → codeAny (model prog w) A (.compLoop (.SetComp elt [⟨.Name x px, iter, [], 0⟩] scope pos) 0 (.ref it) (.ref D) (compEnvC scope cl C env)) R σ') →
      codeAny (model prog w) A (.compLoop (.SetComp elt [⟨.Name x px, iter, [], 0⟩] scope pos) 0 (.ref it) (.ref D) (compEnvC scope cl C env)) R σ := by
    intro σ i v mc d d' R Iσ hC hI hD hv hvv hadd hk
    refine set_turn (wpAny_pyNext_tuple_item hI (htup Iσ) hv fun h₁ hI₁ hs₁ => ?_)
    have I₁ := Iσ.one (t := σ.toks) Fit (h' := h₁) fun c o hc e => (hs₁.2 c hc).trans e
    have hC₁ : h₁.Ns C mc := hC.sameBut hs₁ hCi
    refine wpAny_assign_Name (wpAny_storeName_local (s := { σ with heap := h₁ }) (lookup_relabel_local hx) hC₁ (fun h₂ hn₂ hs₂ => ?_) (by simp [compEnvC, relabel, hkind]))
    have I₂ := I₁.one (t := σ.toks + 1) FC (h' := h₂) fun c o hc e => (hs₂.2 c hc).trans e
    refine wpAny_mono (helt v hvv C _ _ (I₂.inner hcl hn₂) (by simp)) (fun y s₃ hy => ?_) fun _ _ e => e
    obtain ⟨rfl, k₃⟩ := hy
    have I₃ := I₂.kp k₃
    have hD₃ : s₃.heap.get? D = some d := Keeps.get k₃ ((hs₂.2 D (Ne.symm hCD)).trans ((hs₁.2 D hDi).trans hD))
    refine hadd _ _ hD₃ fun h₄ t₄ hs₄ hd₄ => ?_
    have I₄ := I₃.one (t := t₄) FD (h' := h₄) fun c o hc e => (hs₄.2 c hc).trans e
    obtain ⟨oi, hoi, hci⟩ := id hI₁
    have hC₃ : s₃.heap.Ns C _ := Heap.Ns.keeps hn₂ (Keeps.all k₃)
    exact hk _ _ I₄ (hC₃.sameBut hs₄ hCD) ⟨oi, (hs₄.2 it (Ne.symm hDi)).trans (Keeps.get k₃ ((hs₂.2 it (Ne.symm hCi)).trans hoi)), hci⟩ hd₄
  have loop : codeAny (model prog w) A (.compLoop (.SetComp elt [⟨.Name x px, iter, [], 0⟩] scope pos) 0 (.ref it) (.ref D) (compEnvC scope cl C env)) (compPost (model prog w) A E none Q (.ref D) C) σ₀ := by
    refine step _ 0 v₁ _ _ (setO #[(1, .bool true)] 1 (tb1 led)) _ I4 hns₂ hit5 hD5 rfl (.inl rfl) (fun σ' Q' e hq => set_add0 e fun h' hs hd => hq h' _ hs hd) fun σ mc' Iσ hC hI hD => ?_
    refine step _ 1 v₂ _ _ (setO #[(1, .bool true)] 1 (tb1 led)) _ Iσ hC hI hD rfl (.inr rfl) (fun σ' Q' e hq => set_add1 e (hq σ'.heap _ (Heap.SameBut.refl ..) e)) fun σ' mc'' Iσ' hC' hI' hD' => ?_
    refine set_turn (wpAny_pyNext_tuple_end (i := 2) hh hI' (htup Iσ') rfl fun h₁ he₁ => ?_)
    have I₁ := Iσ'.one (t := σ'.toks) Fit (h' := h₁) fun c o hc e => he₁ c o hc e
    refine ⟨_, Heap.Ns.extBut hC' he₁ hCi, fun h'' hs'' => ?_⟩
    have I₂ := I₁.one (t := σ'.toks) FC (h' := h'') fun c o hc e => (hs''.2 c hc).trans e
    exact hQ D 1 _ ((hs''.2 D (Ne.symm hCD)).trans (he₁ _ _ hDi hD')) FD.base I₂
  exact set_start loop (wpAny_pyIter_tupleiter hit5 loop)
end

/-! lists of texts, which comes first -/
open AutoSeq1 (wpAny_loadPart')
open Sem (wp)
def ltL : List Str → List Str → Bool
  | [], [] => false
  | [], _ :: _ => true
  | _ :: _, [] => false
  | x :: xs, y :: ys => if x = y then ltL xs ys else decide (cs x < cs y)
theorem drop_cons {α : Type} {l : List α} {i : Nat} {x : α} (h : l[i]? = some x) : l.drop i = x :: l.drop (i + 1) := by
  have hlt := (List.getElem?_eq_some_iff.mp h).1
  rw [List.drop_eq_getElem_cons hlt]; congr 1; exact (List.getElem?_eq_some_iff.mp h).2

theorem lt_loop (l b : Addr) (xs ys : List (Str × Tok)) (n n2 : Nat) (dd dd2 : Option Addr) (sl sl2 : Array (Option Value)) (k : Nat) :
    ∀ i : Nat, xs.length - i = k → i ≤ xs.length → i ≤ ys.length → Meets (Builtin.«list.__eq__.loop» ⟨[.ref l, .ref b, rawInt i, rawInt 0], []⟩)
      (fun A R s => s.heap.get? l = some { cls := .type "list", dict := dd, data := .seq (strValues xs).toArray n, slots := sl } ∧ s.heap.get? b = some { cls := .type "list", dict := dd2, data := .seq (strValues ys).toArray n2, slots := sl2 } ∧
        R (.ok (.ret (.bool (ltL ((xs.map (·.1)).drop i) ((ys.map (·.1)).drop i))))) s) := by
  induction k with
  | zero =>
    intro i hk hix hiy prog w A R s h
    obtain ⟨hp, g, d, tk, os⟩ := s; obtain ⟨hl, hb, h⟩ := h
    wp_walk using wpAny_loadPart' hl, wpAny_loadPart' hb
    have hi1 : (strValues xs).toArray[((i : Nat) : Int).toNat]? = none := by simp [strValues]; omega
    have hd : (xs.map (·.1)).drop i = [] := by simp; omega
    rw [hd] at h
    rw [hi1]
    wp_walk using wpAny_loadPart' hl, wpAny_loadPart' hb
    show R (.ok (.ret (.bool (decide ((strValues xs).toArray.size < (strValues ys).toArray.size))))) _
    by_cases hy : i < ys.length
    · obtain ⟨p, hp'⟩ : ∃ p, ys[i]? = some p := ⟨_, List.getElem?_eq_getElem hy⟩
      have e : (ys.map (·.1)).drop i = p.1 :: (ys.map (·.1)).drop (i + 1) := drop_cons (by rw [List.getElem?_map, hp']; rfl)
      rw [e] at h
      rw [show decide ((strValues xs).toArray.size < (strValues ys).toArray.size) = true by simp [strValues]; omega]
      exact h
    · have e : (ys.map (·.1)).drop i = [] := by simp; omega
      rw [e] at h
      rw [show decide ((strValues xs).toArray.size < (strValues ys).toArray.size) = false by simp [strValues]; omega]
      exact h
  | succ k ih =>
    intro i hk hix hiy prog w A R s h
    obtain ⟨hp, g, d, tk, os⟩ := s; obtain ⟨hl, hb, h⟩ := h
    wp_walk using wpAny_loadPart' hl, wpAny_loadPart' hb
    have hlt : i < xs.length := by omega
    obtain ⟨p, hpx⟩ : ∃ p, xs[i]? = some p := ⟨_, List.getElem?_eq_getElem hlt⟩
    have e1 : (xs.map (·.1)).drop i = p.1 :: (xs.map (·.1)).drop (i + 1) := drop_cons (by rw [List.getElem?_map, hpx]; rfl)
    have hi1 : (strValues xs).toArray[((i : Nat) : Int).toNat]? = some (.str p.1 p.2) := by simp [strValues, hpx]
    rw [e1] at h
    rw [hi1]
    by_cases hy : i < ys.length
    · obtain ⟨q, hqy⟩ : ∃ q, ys[i]? = some q := ⟨_, List.getElem?_eq_getElem hy⟩
      have e2 : (ys.map (·.1)).drop i = q.1 :: (ys.map (·.1)).drop (i + 1) := drop_cons (by rw [List.getElem?_map, hqy]; rfl)
      have hi2 : (strValues ys).toArray[((i : Nat) : Int).toNat]? = some (.str q.1 q.2) := by simp [strValues, hqy]
      rw [e2] at h
      rw [hi2]
      have hc : ((i : Int) + 1) = ((i + 1 : Nat) : Int) := by push_cast; rfl
      refine wpAny_bind (wpAny_eqBool_str ?_)
      by_cases hpq : p.1 = q.1
      · rw [decide_eq_true hpq]
        rw [show (ltL (p.1 :: ((xs.map (·.1)).drop (i + 1))) (q.1 :: ((ys.map (·.1)).drop (i + 1)))) = ltL ((xs.map (·.1)).drop (i + 1)) ((ys.map (·.1)).drop (i + 1)) by simp only [ltL]; rw [if_pos (hpq)]] at h
        wp_walk
        rw [hc]
        exact ⟨plainId_quiet MeetsSeq3.plain_eq_loop _, codeAny_builtin MeetsSeq3.entry_eq_loop (by
          rw [Around.under_plainId MeetsSeq3.plain_eq_loop _]
          exact ih (i + 1) (by omega) (by omega) (by omega) prog w A R _ ⟨hl, hb, h⟩)⟩
      · rw [decide_eq_false hpq]
        rw [show (ltL (p.1 :: ((xs.map (·.1)).drop (i + 1))) (q.1 :: ((ys.map (·.1)).drop (i + 1)))) = decide (cs p.1 < cs q.1) by simp only [ltL]; rw [if_neg (hpq)]] at h
        wp_walk using wpAny_loadPart' hl, wpAny_loadPart' hb
        rw [hi1, hi2]
        dsimp only
        refine wpAny_bind (richCompare_gives (op := .Lt) (T := "str") rfl rfl F.slot_str_lt F.entry_str_lt (F.args_str_lt_2 _ _) (gives_str_lt p.1 q.1 p.2 q.2) (fun x => nomatch x) ?_)
        exact wpAny_pure h
    · have e2 : (ys.map (·.1)).drop i = [] := by simp; omega
      have hi2 : (strValues ys).toArray[((i : Nat) : Int).toNat]? = none := by simp [strValues]; omega
      rw [e2] at h
      rw [hi2]
      wp_walk using wpAny_loadPart' hl, wpAny_loadPart' hb
      show R (.ok (.ret (.bool (decide ((strValues xs).toArray.size < (strValues ys).toArray.size))))) _
      rw [show decide ((strValues xs).toArray.size < (strValues ys).toArray.size) = false by simp [strValues]; omega]
      exact h
theorem lt_meets (l b : Addr) (xs ys : List (Str × Tok)) (n n2 : Nat) (dd dd2 : Option Addr) (sl sl2 : Array (Option Value)) :
    Meets (Builtin.«list.__lt__» ⟨[.ref l, .ref b], []⟩)
      (fun A R s => s.heap.get? l = some { cls := .type "list", dict := dd, data := .seq (strValues xs).toArray n, slots := sl } ∧ s.heap.get? b = some { cls := .type "list", dict := dd2, data := .seq (strValues ys).toArray n2, slots := sl2 } ∧
        R (.ok (.ret (.bool (ltL (xs.map (·.1)) (ys.map (·.1)))))) s) := by
  intro prog w A R s h
  obtain ⟨hp, g, d, tk, os⟩ := s; obtain ⟨hl, hb, h⟩ := h
  have f3 := AutoSeq1.sub_list_list
  wp_walk using wpAny_loadPart' hl, wpAny_loadPart' hb
  exact ⟨plainId_quiet MeetsSeq3.plain_eq_loop _, codeAny_builtin MeetsSeq3.entry_eq_loop (by
    rw [Around.under_plainId MeetsSeq3.plain_eq_loop _]
    exact lt_loop l b xs ys n n2 dd dd2 sl sl2 _ 0 rfl (Nat.zero_le _) (Nat.zero_le _) prog w A R _ ⟨hl, hb, by simpa using h⟩)⟩
theorem rcLt {prog : Program} {w : World} {A : Around} {E : Value → Shared → Prop} {s : Shared} {a b : Addr} {xs ys : List Str} {Q : Value → Shared → Prop} (ha : Is s.heap a (.tw xs)) (hb : Is s.heap b (.tw ys)) (hu : A.units < cLine)
    (h : Q (.bool (ltL xs ys)) s) : wpAny (model prog w) A (richCompare .Lt (.ref a) (.ref b)) Q E s := by
  obtain ⟨⟨c, dd, dt, sl⟩, ho, hc, l, n, hd, rfl⟩ := ha
  obtain ⟨⟨c2, dd2, dt2, sl2⟩, ho2, hc2, l2, n2, hd2, rfl⟩ := hb
  simp only at hc hd hc2 hd2
  subst hc hd hc2 hd2
  exact richCompare_meets_room (op := .Lt) ⟨_, ho, rfl⟩ ⟨_, ho2, rfl⟩ F.slot_list_lt F.entry_list_lt (F.args_list_lt_2 _ _) (lt_meets a b l l2 n n2 dd dd2 sl sl2)
    ⟨ho, ho2, show Value.bool _ ≠ Value.notImplemented ∧ Q _ s from ⟨(fun x => nomatch x), h⟩⟩ hu

theorem gt_loop (l b : Addr) (xs ys : List (Str × Tok)) (n n2 : Nat) (dd dd2 : Option Addr) (sl sl2 : Array (Option Value)) (k : Nat) :
    ∀ i : Nat, xs.length - i = k → i ≤ xs.length → i ≤ ys.length → Meets (Builtin.«list.__eq__.loop» ⟨[.ref l, .ref b, rawInt i, rawInt 4], []⟩)
      (fun A R s => s.heap.get? l = some { cls := .type "list", dict := dd, data := .seq (strValues xs).toArray n, slots := sl } ∧ s.heap.get? b = some { cls := .type "list", dict := dd2, data := .seq (strValues ys).toArray n2, slots := sl2 } ∧
        R (.ok (.ret (.bool (ltL ((ys.map (·.1)).drop i) ((xs.map (·.1)).drop i))))) s) := by
  induction k with
  | zero =>
    intro i hk hix hiy prog w A R s h
    obtain ⟨hp, g, d, tk, os⟩ := s; obtain ⟨hl, hb, h⟩ := h
    wp_walk using wpAny_loadPart' hl, wpAny_loadPart' hb
    have hi1 : (strValues xs).toArray[((i : Nat) : Int).toNat]? = none := by simp [strValues]; omega
    have hd : (xs.map (·.1)).drop i = [] := by simp; omega
    rw [hd] at h
    rw [hi1]
    wp_walk using wpAny_loadPart' hl, wpAny_loadPart' hb
    show R (.ok (.ret (.bool (decide ((strValues ys).toArray.size < (strValues xs).toArray.size))))) _
    by_cases hy : i < ys.length
    · obtain ⟨p, hp'⟩ : ∃ p, ys[i]? = some p := ⟨_, List.getElem?_eq_getElem hy⟩
      have e : (ys.map (·.1)).drop i = p.1 :: (ys.map (·.1)).drop (i + 1) := drop_cons (by rw [List.getElem?_map, hp']; rfl)
      rw [e] at h
      rw [show decide ((strValues ys).toArray.size < (strValues xs).toArray.size) = false by simp [strValues]; omega]
      exact h
    · have e : (ys.map (·.1)).drop i = [] := by simp; omega
      rw [e] at h
      rw [show decide ((strValues ys).toArray.size < (strValues xs).toArray.size) = false by simp [strValues]; omega]
      exact h
  | succ k ih =>
    intro i hk hix hiy prog w A R s h
    obtain ⟨hp, g, d, tk, os⟩ := s; obtain ⟨hl, hb, h⟩ := h
    wp_walk using wpAny_loadPart' hl, wpAny_loadPart' hb
    have hlt : i < xs.length := by omega
    obtain ⟨p, hpx⟩ : ∃ p, xs[i]? = some p := ⟨_, List.getElem?_eq_getElem hlt⟩
    have e1 : (xs.map (·.1)).drop i = p.1 :: (xs.map (·.1)).drop (i + 1) := drop_cons (by rw [List.getElem?_map, hpx]; rfl)
    have hi1 : (strValues xs).toArray[((i : Nat) : Int).toNat]? = some (.str p.1 p.2) := by simp [strValues, hpx]
    rw [e1] at h
    rw [hi1]
    by_cases hy : i < ys.length
    · obtain ⟨q, hqy⟩ : ∃ q, ys[i]? = some q := ⟨_, List.getElem?_eq_getElem hy⟩
      have e2 : (ys.map (·.1)).drop i = q.1 :: (ys.map (·.1)).drop (i + 1) := drop_cons (by rw [List.getElem?_map, hqy]; rfl)
      have hi2 : (strValues ys).toArray[((i : Nat) : Int).toNat]? = some (.str q.1 q.2) := by simp [strValues, hqy]
      rw [e2] at h
      rw [hi2]
      have hc : ((i : Int) + 1) = ((i + 1 : Nat) : Int) := by push_cast; rfl
      refine wpAny_bind (wpAny_eqBool_str ?_)
      by_cases hpq : p.1 = q.1
      · rw [decide_eq_true hpq]
        rw [show (ltL (q.1 :: ((ys.map (·.1)).drop (i + 1))) (p.1 :: ((xs.map (·.1)).drop (i + 1)))) = ltL ((ys.map (·.1)).drop (i + 1)) ((xs.map (·.1)).drop (i + 1)) by simp only [ltL]; rw [if_pos (hpq.symm)]] at h
        wp_walk
        rw [hc]
        exact ⟨plainId_quiet MeetsSeq3.plain_eq_loop _, codeAny_builtin MeetsSeq3.entry_eq_loop (by
          rw [Around.under_plainId MeetsSeq3.plain_eq_loop _]
          exact ih (i + 1) (by omega) (by omega) (by omega) prog w A R _ ⟨hl, hb, h⟩)⟩
      · rw [decide_eq_false hpq]
        rw [show (ltL (q.1 :: ((ys.map (·.1)).drop (i + 1))) (p.1 :: ((xs.map (·.1)).drop (i + 1)))) = decide (cs q.1 < cs p.1) by simp only [ltL]; rw [if_neg (Ne.symm hpq)]] at h
        wp_walk using wpAny_loadPart' hl, wpAny_loadPart' hb
        rw [hi1, hi2]
        dsimp only
        refine wpAny_bind (richCompare_gives (op := .Gt) (T := "str") rfl rfl F.slot_str_gt F.entry_str_gt (F.args_str_gt_2 _ _) (gives_str_gt p.1 q.1 p.2 q.2) (fun x => nomatch x) ?_)
        exact wpAny_pure h
    · have e2 : (ys.map (·.1)).drop i = [] := by simp; omega
      have hi2 : (strValues ys).toArray[((i : Nat) : Int).toNat]? = none := by simp [strValues]; omega
      rw [e2] at h
      rw [hi2]
      wp_walk using wpAny_loadPart' hl, wpAny_loadPart' hb
      show R (.ok (.ret (.bool (decide ((strValues ys).toArray.size < (strValues xs).toArray.size))))) _
      rw [show decide ((strValues ys).toArray.size < (strValues xs).toArray.size) = true by simp [strValues]; omega]
      exact h
theorem gt_meets (l b : Addr) (xs ys : List (Str × Tok)) (n n2 : Nat) (dd dd2 : Option Addr) (sl sl2 : Array (Option Value)) :
    Meets (Builtin.«list.__gt__» ⟨[.ref l, .ref b], []⟩)
      (fun A R s => s.heap.get? l = some { cls := .type "list", dict := dd, data := .seq (strValues xs).toArray n, slots := sl } ∧ s.heap.get? b = some { cls := .type "list", dict := dd2, data := .seq (strValues ys).toArray n2, slots := sl2 } ∧
        R (.ok (.ret (.bool (ltL (ys.map (·.1)) (xs.map (·.1)))))) s) := by
  intro prog w A R s h
  obtain ⟨hp, g, d, tk, os⟩ := s; obtain ⟨hl, hb, h⟩ := h
  have f3 := AutoSeq1.sub_list_list
  wp_walk using wpAny_loadPart' hl, wpAny_loadPart' hb
  exact ⟨plainId_quiet MeetsSeq3.plain_eq_loop _, codeAny_builtin MeetsSeq3.entry_eq_loop (by
    rw [Around.under_plainId MeetsSeq3.plain_eq_loop _]
    exact gt_loop l b xs ys n n2 dd dd2 sl sl2 _ 0 rfl (Nat.zero_le _) (Nat.zero_le _) prog w A R _ ⟨hl, hb, by simpa using h⟩)⟩
theorem rcGt {prog : Program} {w : World} {A : Around} {E : Value → Shared → Prop} {s : Shared} {a b : Addr} {xs ys : List Str} {Q : Value → Shared → Prop} (ha : Is s.heap a (.tw xs)) (hb : Is s.heap b (.tw ys)) (hu : A.units < cLine)
    (h : Q (.bool (ltL ys xs)) s) : wpAny (model prog w) A (richCompare .Gt (.ref a) (.ref b)) Q E s := by
  obtain ⟨⟨c, dd, dt, sl⟩, ho, hc, l, n, hd, rfl⟩ := ha
  obtain ⟨⟨c2, dd2, dt2, sl2⟩, ho2, hc2, l2, n2, hd2, rfl⟩ := hb
  simp only at hc hd hc2 hd2
  subst hc hd hc2 hd2
  exact richCompare_meets_room (op := .Gt) ⟨_, ho, rfl⟩ ⟨_, ho2, rfl⟩ F.slot_list_gt F.entry_list_gt (F.args_list_gt_2 _ _) (gt_meets a b l l2 n n2 dd dd2 sl sl2)
    ⟨ho, ho2, show Value.bool _ ≠ Value.notImplemented ∧ Q _ s from ⟨(fun x => nomatch x), h⟩⟩ hu

/-! min and max of two lists of texts -/
section
variable {K : Frag} {s₀ s : Shared} {env : Env} {m cm : Str → Option Value} {N : List (Addr × Kd)} {prog : Program} {w : World} {A : Around} {E : Value → Shared → Prop} {Q : Value → Shared → Prop}

theorem minTwo {D a b : Addr} {xs ys : List Str} {n : Nat} (I : In K s₀ env m cm N s) (hD : (D, .ob (lstO [.ref a, .ref b] n)) ∈ N) (ha : (a, .tw xs) ∈ N) (hb : (b, .tw ys) ∈ N) (hh : A.handled = none) (hu : A.in1.units < cLine)
    (h : ∀ s', In K s₀ env m cm N s' → Q (if (ltL ys xs) = true then .ref b else .ref a) s') : wpAny (model prog w) A (call (.builtin "min") [.ref D]) Q E s := by
  have hname : (toString "min" ++ toString ".loop" : String) = "min.loop" := by decide
  have hlD : ∀ {s' : Shared}, In K s₀ env m cm N s' → s'.heap.IsList D #[.ref a, .ref b] := fun I => ⟨_, (I.get hD).ob, rfl, n, rfl⟩
  refine call_function_tree F.kind_min F.plain_min F.entry_min (F.args_min1 _) ?_
  show wpAny _ A.in1 (Builtin.Builtins.bindParams "min" ["key", "default"] 0 ⟨[], []⟩ >>= _) _ _ s
  refine wpAny_bind (wpAny_of_eq (show Builtin.Builtins.bindParams "min" ["key", "default"] 0 ⟨[], []⟩ = pure [none, none] from rfl) ?_)
  refine wpAny_bind (wpAny_pure ?_)
  refine wpAny_bind (wpAny_pyIter_list (hlD I) ?_)
  have Fit := I.off (Nat.le_refl _)
  have hit : ({ s with heap := s.heap.push (liO D) } : Shared).heap.IsListIter s.heap.objs.size D 0 := ⟨_, Heap.get?_push_size _ rfl, rfl, rfl⟩
  have I1 := I.kp (s' := { s with heap := s.heap.push (liO D) }) Keeps.push
  show wpAny _ _ _ _ _ ({ s with heap := s.heap.push (liO D) } : Shared)
  generalize s.heap.objs.size = it at Fit hit ⊢
  generalize ({ s with heap := s.heap.push (liO D) } : Shared) = s₁ at hit I1 ⊢
  clear I
  refine wpAny_bind (wpAny_newObj_type ?_)
  have FS := I1.off (Nat.le_refl _)
  have hS : ({ s₁ with heap := s₁.heap.push (bareL #[] 0) } : Shared).heap.get? s₁.heap.objs.size = some (bareL #[] 0) := Heap.get?_push_size _ rfl
  have I2 := I1.kp (s' := { s₁ with heap := s₁.heap.push (bareL #[] 0) }) Keeps.push
  have hit2 : ({ s₁ with heap := s₁.heap.push (bareL #[] 0) } : Shared).heap.IsListIter it D 0 := by obtain ⟨o, e, r⟩ := hit; exact ⟨o, Heap.get?_push_of_some _ e, r⟩
  have hSi : s₁.heap.objs.size ≠ it := by obtain ⟨o, e, _⟩ := hit; exact Nat.ne_of_gt (Heap.lt_size e)
  show wpAny _ _ _ _ _ ({ s₁ with heap := s₁.heap.push (bareL #[] 0) } : Shared)
  generalize s₁.heap.objs.size = S at FS hS hSi ⊢
  generalize ({ s₁ with heap := s₁.heap.push (bareL #[] 0) } : Shared) = σ at hS hit2 I2 ⊢
  clear I1 hit
  rw [hname]
  refine wpAny_pure ⟨plainId_quiet F.plain_min_loop _, ?_⟩
  -- the first
  refine codeAny_builtin F.entry_min_loop ?_
  rw [Around.under_plainId F.plain_min_loop _]
  show wpAny _ A.in1 (seqItems? (.ref S) >>= _) _ _ _
  refine wpAny_bind (wpAny_seqItems hS rfl ?_)
  show wpAny _ A.in1 (tryCatch (pyNext (.ref it)) _ >>= _) _ _ _
  refine wpAny_bind (wpAny_tryCatch (wpAny_pyNext_list_item hit2 (hlD I2) (x := .ref a) rfl fun h₁ hit₁ hs₁ => ?_))
  have I3 := I2.one (t := σ.toks) Fit (h' := h₁) fun c o hc e => (hs₁.2 c hc).trans e
  have hS3 : h₁.get? S = some (bareL #[] 0) := (hs₁.2 S hSi).trans hS
  show wpAny _ A.in1 (updateSeq S (fun _ => #[.ref a, .ref a]) >>= _) _ _ _
  refine wpAny_bind (wpAny_updateSeq (s := { σ with heap := h₁ }) hS3 rfl ?_)
  have I4 := I3.one (t := σ.toks) FS (h' := h₁.update S (Obj.mapSeq fun _ => #[.ref a, .ref a])) fun c o hc e => (Heap.get?_update_other _ _ (Ne.symm hc)).trans e
  have hS4 : (h₁.update S (Obj.mapSeq fun _ => #[Value.ref a, .ref a])).get? S = some _ := Heap.get?_update_self _ hS3 rfl
  have hit4 : (h₁.update S (Obj.mapSeq fun _ => #[Value.ref a, .ref a])).IsListIter it D 1 := by obtain ⟨o, e, r⟩ := hit₁; exact ⟨o, (Heap.get?_update_other _ _ hSi).trans e, r⟩
  rw [hname]
  refine wpAny_pure ⟨plainId_quiet F.plain_min_loop _, ?_⟩
  have hS5 : ({ σ with heap := h₁.update S (Obj.mapSeq fun _ => #[Value.ref a, .ref a]) } : Shared).heap.get? S = some _ := hS4
  have hit5 : ({ σ with heap := h₁.update S (Obj.mapSeq fun _ => #[Value.ref a, .ref a]) } : Shared).heap.IsListIter it D 1 := hit4
  show codeAny _ _ _ _ ({ σ with heap := h₁.update S (Obj.mapSeq fun _ => #[Value.ref a, .ref a]) } : Shared)
  replace I4 : In K s₀ env m cm N ({ σ with heap := h₁.update S (Obj.mapSeq fun _ => #[Value.ref a, .ref a]) } : Shared) := I4
  generalize ({ σ with heap := h₁.update S (Obj.mapSeq fun _ => #[Value.ref a, .ref a]) } : Shared) = τ at I4 hS5 hit5 ⊢
  clear hS4 hit4 hS3 I3 I2 hit2 hS hit₁ hs₁
  -- the end
  have last : ∀ (ρ : Shared) (v : Value) (c : Nat), In K s₀ env m cm N ρ → ρ.heap.get? S = some (bareL #[v, v] c) → ρ.heap.IsListIter it D 2 → (∀ s', In K s₀ env m cm N s' → Q v s') →
      codeAny (model prog w) A (.builtin "min.loop" ⟨[.ref it, .none, .ref S], []⟩) (wants Q E) ρ := by
    intro ρ v c Iρ hSρ hiρ hq
    refine codeAny_builtin F.entry_min_loop ?_
    rw [Around.under_plainId F.plain_min_loop _]
    show wpAny _ A.in1 (seqItems? (.ref S) >>= _) _ _ _
    refine wpAny_bind (wpAny_seqItems hSρ rfl ?_)
    show wpAny _ A.in1 (tryCatch (pyNext (.ref it)) _ >>= _) _ _ _
    refine wpAny_bind (wpAny_tryCatch (wpAny_pyNext_list_end (i := 2) hh hiρ (hlD Iρ) rfl fun h₁ he₁ => ?_))
    have I3 := Iρ.one (t := ρ.toks) Fit (h' := h₁) fun c o hc e => he₁ c o hc e
    have hS3 : h₁.get? S = some (bareL #[v, v] c) := he₁ _ _ hSi hSρ
    show wpAny _ A.in1 (updateSeq S (fun _ => #[]) >>= _) _ _ _
    refine wpAny_bind ?_
    refine wpAny_updateSeq (s := { ρ with heap := h₁ }) hS3 rfl (wpAny_bind (wpAny_letGo (wpAny_pure ?_)))
    exact hq _ (I3.one (t := ρ.toks) FS (h' := h₁.update S (Obj.mapSeq fun _ => #[])) fun c o hc e => (Heap.get?_update_other _ _ (Ne.symm hc)).trans e)
  refine codeAny_builtin F.entry_min_loop ?_
  rw [Around.under_plainId F.plain_min_loop _]
  show wpAny _ A.in1 (seqItems? (.ref S) >>= _) _ _ _
  refine wpAny_bind (wpAny_seqItems hS5 rfl ?_)
  show wpAny _ A.in1 (tryCatch (pyNext (.ref it)) _ >>= _) _ _ _
  refine wpAny_bind (wpAny_tryCatch (wpAny_pyNext_list_item hit5 (hlD I4) (x := .ref b) rfl fun h₂ hit₂ hs₂ => ?_))
  have I6 := I4.one (t := τ.toks) Fit (h' := h₂) fun c o hc e => (hs₂.2 c hc).trans e
  have hS6 := (hs₂.2 S hSi).trans hS5
  show wpAny _ A.in1 (tryCatch (holding [.ref b, .ref b] (richCompare .Lt (.ref b) (.ref a) >>= _)) _ >>= _) _ _ _
  refine wpAny_bind (wpAny_tryCatch (wpAny_holding (wpAny_bind (rcLt (I6.get hb) (I6.get ha) hu ?_))))
  refine wpAny_bind (wpAny_holding (wpAny_truthy_bool ?_))
  refine wpAny_bind (wpAny_letGo (wpAny_pure ?_))
  cases hlt : (ltL ys xs) with
  | true =>
    rw [hlt] at h
    simp only [if_true]
    refine wpAny_bind ?_
    refine wpAny_updateSeq (s := { τ with heap := h₂ }) hS6 rfl (wpAny_bind (wpAny_letGo ?_))
    rw [hname]
    refine wpAny_pure ⟨plainId_quiet F.plain_min_loop _, ?_⟩
    refine last _ (.ref b) _ (I6.one (t := τ.toks) FS (h' := h₂.update S (Obj.mapSeq fun _ => #[.ref b, .ref b])) fun c o hc e => (Heap.get?_update_other _ _ (Ne.symm hc)).trans e) (Heap.get?_update_self _ hS6 rfl) ?_ h
    obtain ⟨o, e, r⟩ := hit₂
    exact ⟨o, (Heap.get?_update_other _ _ hSi).trans e, r⟩
  | false =>
    rw [hlt] at h
    simp only [Bool.false_eq_true, if_false]
    refine wpAny_bind (wpAny_letGo ?_)
    rw [hname]
    exact wpAny_pure ⟨plainId_quiet F.plain_min_loop _, last _ (.ref a) _ I6 hS6 hit₂ h⟩

theorem maxTwo {D a b : Addr} {xs ys : List Str} {n : Nat} (I : In K s₀ env m cm N s) (hD : (D, .ob (lstO [.ref a, .ref b] n)) ∈ N) (ha : (a, .tw xs) ∈ N) (hb : (b, .tw ys) ∈ N) (hh : A.handled = none) (hu : A.in1.units < cLine)
    (h : ∀ s', In K s₀ env m cm N s' → Q (if (ltL xs ys) = true then .ref b else .ref a) s') : wpAny (model prog w) A (call (.builtin "max") [.ref D]) Q E s := by
  have hname : (toString "max" ++ toString ".loop" : String) = "max.loop" := by decide
  have hlD : ∀ {s' : Shared}, In K s₀ env m cm N s' → s'.heap.IsList D #[.ref a, .ref b] := fun I => ⟨_, (I.get hD).ob, rfl, n, rfl⟩
  refine call_function_tree F.kind_max F.plain_max F.entry_max (F.args_max1 _) ?_
  show wpAny _ A.in1 (Builtin.Builtins.bindParams "max" ["key", "default"] 0 ⟨[], []⟩ >>= _) _ _ s
  refine wpAny_bind (wpAny_of_eq (show Builtin.Builtins.bindParams "max" ["key", "default"] 0 ⟨[], []⟩ = pure [none, none] from rfl) ?_)
  refine wpAny_bind (wpAny_pure ?_)
  refine wpAny_bind (wpAny_pyIter_list (hlD I) ?_)
  have Fit := I.off (Nat.le_refl _)
  have hit : ({ s with heap := s.heap.push (liO D) } : Shared).heap.IsListIter s.heap.objs.size D 0 := ⟨_, Heap.get?_push_size _ rfl, rfl, rfl⟩
  have I1 := I.kp (s' := { s with heap := s.heap.push (liO D) }) Keeps.push
  show wpAny _ _ _ _ _ ({ s with heap := s.heap.push (liO D) } : Shared)
  generalize s.heap.objs.size = it at Fit hit ⊢
  generalize ({ s with heap := s.heap.push (liO D) } : Shared) = s₁ at hit I1 ⊢
  clear I
  refine wpAny_bind (wpAny_newObj_type ?_)
  have FS := I1.off (Nat.le_refl _)
  have hS : ({ s₁ with heap := s₁.heap.push (bareL #[] 0) } : Shared).heap.get? s₁.heap.objs.size = some (bareL #[] 0) := Heap.get?_push_size _ rfl
  have I2 := I1.kp (s' := { s₁ with heap := s₁.heap.push (bareL #[] 0) }) Keeps.push
  have hit2 : ({ s₁ with heap := s₁.heap.push (bareL #[] 0) } : Shared).heap.IsListIter it D 0 := by obtain ⟨o, e, r⟩ := hit; exact ⟨o, Heap.get?_push_of_some _ e, r⟩
  have hSi : s₁.heap.objs.size ≠ it := by obtain ⟨o, e, _⟩ := hit; exact Nat.ne_of_gt (Heap.lt_size e)
  show wpAny _ _ _ _ _ ({ s₁ with heap := s₁.heap.push (bareL #[] 0) } : Shared)
  generalize s₁.heap.objs.size = S at FS hS hSi ⊢
  generalize ({ s₁ with heap := s₁.heap.push (bareL #[] 0) } : Shared) = σ at hS hit2 I2 ⊢
  clear I1 hit
  rw [hname]
  refine wpAny_pure ⟨plainId_quiet F.plain_max_loop _, ?_⟩
  -- the first
  refine codeAny_builtin F.entry_max_loop ?_
  rw [Around.under_plainId F.plain_max_loop _]
  show wpAny _ A.in1 (seqItems? (.ref S) >>= _) _ _ _
  refine wpAny_bind (wpAny_seqItems hS rfl ?_)
  show wpAny _ A.in1 (tryCatch (pyNext (.ref it)) _ >>= _) _ _ _
  refine wpAny_bind (wpAny_tryCatch (wpAny_pyNext_list_item hit2 (hlD I2) (x := .ref a) rfl fun h₁ hit₁ hs₁ => ?_))
  have I3 := I2.one (t := σ.toks) Fit (h' := h₁) fun c o hc e => (hs₁.2 c hc).trans e
  have hS3 : h₁.get? S = some (bareL #[] 0) := (hs₁.2 S hSi).trans hS
  show wpAny _ A.in1 (updateSeq S (fun _ => #[.ref a, .ref a]) >>= _) _ _ _
  refine wpAny_bind (wpAny_updateSeq (s := { σ with heap := h₁ }) hS3 rfl ?_)
  have I4 := I3.one (t := σ.toks) FS (h' := h₁.update S (Obj.mapSeq fun _ => #[.ref a, .ref a])) fun c o hc e => (Heap.get?_update_other _ _ (Ne.symm hc)).trans e
  have hS4 : (h₁.update S (Obj.mapSeq fun _ => #[Value.ref a, .ref a])).get? S = some _ := Heap.get?_update_self _ hS3 rfl
  have hit4 : (h₁.update S (Obj.mapSeq fun _ => #[Value.ref a, .ref a])).IsListIter it D 1 := by obtain ⟨o, e, r⟩ := hit₁; exact ⟨o, (Heap.get?_update_other _ _ hSi).trans e, r⟩
  rw [hname]
  refine wpAny_pure ⟨plainId_quiet F.plain_max_loop _, ?_⟩
  have hS5 : ({ σ with heap := h₁.update S (Obj.mapSeq fun _ => #[Value.ref a, .ref a]) } : Shared).heap.get? S = some _ := hS4
  have hit5 : ({ σ with heap := h₁.update S (Obj.mapSeq fun _ => #[Value.ref a, .ref a]) } : Shared).heap.IsListIter it D 1 := hit4
  show codeAny _ _ _ _ ({ σ with heap := h₁.update S (Obj.mapSeq fun _ => #[Value.ref a, .ref a]) } : Shared)
  replace I4 : In K s₀ env m cm N ({ σ with heap := h₁.update S (Obj.mapSeq fun _ => #[Value.ref a, .ref a]) } : Shared) := I4
  generalize ({ σ with heap := h₁.update S (Obj.mapSeq fun _ => #[Value.ref a, .ref a]) } : Shared) = τ at I4 hS5 hit5 ⊢
  clear hS4 hit4 hS3 I3 I2 hit2 hS hit₁ hs₁
  -- the end
  have last : ∀ (ρ : Shared) (v : Value) (c : Nat), In K s₀ env m cm N ρ → ρ.heap.get? S = some (bareL #[v, v] c) → ρ.heap.IsListIter it D 2 → (∀ s', In K s₀ env m cm N s' → Q v s') →
      codeAny (model prog w) A (.builtin "max.loop" ⟨[.ref it, .none, .ref S], []⟩) (wants Q E) ρ := by
    intro ρ v c Iρ hSρ hiρ hq
    refine codeAny_builtin F.entry_max_loop ?_
    rw [Around.under_plainId F.plain_max_loop _]
    show wpAny _ A.in1 (seqItems? (.ref S) >>= _) _ _ _
    refine wpAny_bind (wpAny_seqItems hSρ rfl ?_)
    show wpAny _ A.in1 (tryCatch (pyNext (.ref it)) _ >>= _) _ _ _
    refine wpAny_bind (wpAny_tryCatch (wpAny_pyNext_list_end (i := 2) hh hiρ (hlD Iρ) rfl fun h₁ he₁ => ?_))
    have I3 := Iρ.one (t := ρ.toks) Fit (h' := h₁) fun c o hc e => he₁ c o hc e
    have hS3 : h₁.get? S = some (bareL #[v, v] c) := he₁ _ _ hSi hSρ
    show wpAny _ A.in1 (updateSeq S (fun _ => #[]) >>= _) _ _ _
    refine wpAny_bind ?_
    refine wpAny_updateSeq (s := { ρ with heap := h₁ }) hS3 rfl (wpAny_bind (wpAny_letGo (wpAny_pure ?_)))
    exact hq _ (I3.one (t := ρ.toks) FS (h' := h₁.update S (Obj.mapSeq fun _ => #[])) fun c o hc e => (Heap.get?_update_other _ _ (Ne.symm hc)).trans e)
  refine codeAny_builtin F.entry_max_loop ?_
  rw [Around.under_plainId F.plain_max_loop _]
  show wpAny _ A.in1 (seqItems? (.ref S) >>= _) _ _ _
  refine wpAny_bind (wpAny_seqItems hS5 rfl ?_)
  show wpAny _ A.in1 (tryCatch (pyNext (.ref it)) _ >>= _) _ _ _
  refine wpAny_bind (wpAny_tryCatch (wpAny_pyNext_list_item hit5 (hlD I4) (x := .ref b) rfl fun h₂ hit₂ hs₂ => ?_))
  have I6 := I4.one (t := τ.toks) Fit (h' := h₂) fun c o hc e => (hs₂.2 c hc).trans e
  have hS6 := (hs₂.2 S hSi).trans hS5
  show wpAny _ A.in1 (tryCatch (holding [.ref b, .ref b] (richCompare .Gt (.ref b) (.ref a) >>= _)) _ >>= _) _ _ _
  refine wpAny_bind (wpAny_tryCatch (wpAny_holding (wpAny_bind (rcGt (I6.get hb) (I6.get ha) hu ?_))))
  refine wpAny_bind (wpAny_holding (wpAny_truthy_bool ?_))
  refine wpAny_bind (wpAny_letGo (wpAny_pure ?_))
  cases hlt : (ltL xs ys) with
  | true =>
    rw [hlt] at h
    simp only [if_true]
    refine wpAny_bind ?_
    refine wpAny_updateSeq (s := { τ with heap := h₂ }) hS6 rfl (wpAny_bind (wpAny_letGo ?_))
    rw [hname]
    refine wpAny_pure ⟨plainId_quiet F.plain_max_loop _, ?_⟩
    refine last _ (.ref b) _ (I6.one (t := τ.toks) FS (h' := h₂.update S (Obj.mapSeq fun _ => #[.ref b, .ref b])) fun c o hc e => (Heap.get?_update_other _ _ (Ne.symm hc)).trans e) (Heap.get?_update_self _ hS6 rfl) ?_ h
    obtain ⟨o, e, r⟩ := hit₂
    exact ⟨o, (Heap.get?_update_other _ _ hSi).trans e, r⟩
  | false =>
    rw [hlt] at h
    simp only [Bool.false_eq_true, if_false]
    refine wpAny_bind (wpAny_letGo ?_)
    rw [hname]
    exact wpAny_pure ⟨plainId_quiet F.plain_max_loop _, last _ (.ref a) _ I6 hS6 hit₂ h⟩
end

/-! a comprehension of lists, over two, told to a name -/
section
variable {prog : Program} {w : World} {A : Around} {E : Value → Shared → Prop} {env : Env}
theorem assignO {s : Shared} {elt iter : Expr} {x y : Str} {px py : Pos} {ifs : List Expr} {scope : Scope} {cl : List (Str × Addr)} {pos spos : Pos} {Q : Flow → Shared → Prop}
    (p : Value → Bool) (G : Value → Array Value → Prop)
    (hsw : swapsWith (.ListComp elt [⟨.Name x px, iter, ifs, 0⟩] scope pos) (some (.Name y py)) spos.line env = pure true)
    (hclos : closureFor scope env = pure cl) (hcell : ∀ z ∈ scope.names, z.2 ≠ .cell) (hkind : scope.kind = .function)
    (hnames : ∀ z ∈ scope.names, z.2 = .local → scope.names.lookup z.1 = some .local) (hx : scope.names.lookup x = some .local)
    (hy : env.kindOf y = some .local) (hp : (env.scope.kind == .class || (env.scope.kind == .module && env.locals != env.globals)) = false)
    (h : wpAny (model prog w) A (eval iter env) (fun xv s₁ => wpAny (model prog w) A (pyIter xv) (fun it s₂ => ∃ I fp wr n P St m, it = .ref I ∧ Walks prog w A I fp wr n P St ∧ n ≤ sizeLine ∧ (∀ i h, St i h → ∀ b ∈ wr, ∃ o, h.get? b = some o) ∧ St 0 s₂.heap ∧ (∀ b ∈ fp, b < s₂.heap.objs.size) ∧
      env.locals ∉ wr ∧ s₂.heap.Ns env.locals m ∧ QuietOnCO prog w A env scope cl x ifs elt wr P p G s₂ ∧
      (∀ D h' tk ys (vs : List Value), s₂.heap.get? D = none → h'.PlainList D ys → vs.length = n → (∀ j v, vs[j]? = some v → P j v) → Paired (LstIs s₂.heap G h') (vs.filter p) ys.toList → ys.toList.Pairwise (· ≠ ·) →
        h'.Ns env.locals (fun z => if z = y then some (.ref D) else m z) → (∀ b o, b ≠ env.locals → b ∉ wr → s₂.heap.get? b = some o → h'.get? b = some o) → Q .next { s₂ with heap := h', toks := tk })) E s₁) E s)
    (hs : ∀ x, foldedSetIterable iter env x = pure x := by intro _; rfl) :
    wpAny (model prog w) A (exec (.Assign [.Name y py] (.ListComp elt [⟨.Name x px, iter, ifs, 0⟩] scope pos) spos) env) Q E s := by
  rw [exec_Assign_Name_used _ _ _ _ hsw]
  refine wpAny_bind (wpAny_standAt (wpAny_bind ?_))
  show wpAny _ A (do let _ ← comprehension (.ListComp elt [⟨.Name x px, iter, ifs, 0⟩] scope pos) scope env _ (newList []) false (eval iter env) (some (assign (.Name y py) env))) _ _ s
  refine wpAny_bind (wpAny_mono (wpAny_comprehension_free (use := some (assign (.Name y py) env)) (Q := fun _ s' => Q .next s') rfl hs hclos hkind hnames
    (wpAny_mono h (fun xv s₁ h₁ => wpAny_mono h₁ (fun it s₂ h₂ => ?_) fun _ _ e => e) fun _ _ e => e)) (fun _ s' hq => wpAny_pure (wpAny_pure hq)) fun _ _ e => e)
  obtain ⟨I, fp, wr, n, P, St, m, rfl, W, hsz, hlive, hst, hfp, hLf, hn, hq, hQ⟩ := h₂
  refine comp_block_walkCO (RR := fun acc C => compPost (model prog w) A E (some (assign (.Name y py) env)) (fun _ s' => Q .next s') acc C) W hsz p G hlive hcell hkind hx hst hfp hq ?_
  intro D C h' tk m' ys vs hD hC hDC hnC hlD hplD hlen hP hF hnd hk
  have hLC : env.locals ≠ C := by rintro rfl; obtain ⟨o, _, _, ho, _⟩ := hn; rw [hC] at ho; cases ho
  have hLD : env.locals ≠ D := by rintro rfl; obtain ⟨o, _, _, ho, _⟩ := hn; rw [hD] at ho; cases ho
  show wpAny _ A (assign (.Name y py) env (.ref D)) _ _ _
  refine wpAny_assign_Name (wpAny_storeName_local hy (hn.at' fun o e => hk _ o hLf e) (fun h₂ hn₂ hs₂ => ?_) hp)
  refine ⟨m', hnC.sameBut hs₂ (Ne.symm hLC), fun h₃ hs₃ => ?_⟩
  refine hQ D h₃ _ ys vs hD ((hplD.extBut hs₂.extBut (Ne.symm hLD)).extBut hs₃.extBut hDC) hlen hP ?_ hnd (hn₂.sameBut hs₃ hLC) fun b o hbL hbf e =>
    hs₃.extBut b o (by rintro rfl; rw [hC] at e; cases e) (hs₂.extBut b o hbL (hk b o hbf e))
  exact hF.mono fun _ _ hy => by
    obtain ⟨T, its, rfl, h1, hTC, _, _, hlT, hG⟩ := hy
    have hTL : T ≠ env.locals := by rintro rfl; obtain ⟨o, _, _, ho, _⟩ := hn; rw [h1] at ho; cases ho
    exact ⟨T, its, rfl, h1, (hlT.extBut hs₂.extBut hTL).extBut hs₃.extBut hTC, hG⟩
end

theorem In.compF {K : Frag} {s₀ s₂ s₃ : Shared} {env : Env} {m cm : Str → Option Value} {N : List (Addr × Kd)} {scope : Scope} {cl : List (Str × Addr)} {C it : Addr} {m₃ : Str → Option Value} (I : In K s₀ env m cm N s₂) (F : Off s₀ env N it)
    (hcl : ∀ n c, cl.lookup n = some c → env.cells.lookup n = some c) (hn : s₃.heap.Ns C m₃) (hk : ∀ b x, b ∉ [it] → s₂.heap.get? b = some x → s₃.heap.get? b = some x) : In K s₃ (compEnvC scope cl C env) m₃ cm N s₃ := by
  have kk : ∀ b x, b ≠ it → s₂.heap.get? b = some x → s₃.heap.get? b = some x := fun b x hb e => hk b x (fun q => hb (List.mem_singleton.mp q)) e
  refine ⟨Keeps.refl' _, hn, fun n c h => ?_, fun p hp => (I.led p hp).keeps fun x e => kk _ _ (F.led p hp) e, I.wd.keeps fun b x e => kk b x (fun q => by rw [q, F.base] at e; cases e) (I.old e)⟩
  obtain ⟨oc, e, r⟩ := id (I.cell n c (hcl n c h))
  exact ⟨oc, kk _ _ (Ne.symm (F.cell n c (hcl n c h))) e, r⟩

section
variable {K : Frag} {s₀ s : Shared} {env : Env} {prog : Program} {w : World} {A : Around} {E : Value → Shared → Prop}
theorem comp_two {elt iter : Expr} {x y : Str} {px py : Pos} {scope : Scope} {cl : List (Str × Addr)} {pos spos : Pos} {Q : Flow → Shared → Prop} (g : Value → List Str)
    (hsw : swapsWith (.ListComp elt [⟨.Name x px, iter, [], 0⟩] scope pos) (some (.Name y py)) spos.line env = pure true)
    (hclos : closureFor scope env = pure cl) (hcl : ∀ n c, cl.lookup n = some c → env.cells.lookup n = some c) (hcell : ∀ y ∈ scope.names, y.2 ≠ .cell) (hkind : scope.kind = .function)
    (hnames : ∀ y ∈ scope.names, y.2 = .local → scope.names.lookup y.1 = some .local) (hx : scope.names.lookup x = some .local) (hy : env.kindOf y = some .local) (O : Own s₀ env) (hh : A.handled = none)
    (h : wpAny (model prog w) A (eval iter env) (fun xv s₁ => ∃ m cm N a v₁ v₂, xv = .ref a ∧ In K s₀ env m cm N s₁ ∧ ((a, .ob (tupO [v₁, v₂])) ∈ N ∨ ∃ n, (a, .ob (lstO [v₁, v₂] n)) ∈ N) ∧
      (∀ v, v = v₁ ∨ v = v₂ → ∀ C s₃ m₃ E', In K s₃ (compEnvC scope cl C env) m₃ cm N s₃ → m₃ x = some v →
        wpAny (model prog w) A (eval elt (compEnvC scope cl C env)) (fun y s₄ => (∃ T, y = .ref T ∧ s₃.heap.get? T = none ∧ Is s₄.heap T (.tw (g v))) ∧ Keeps s₃ s₄) E' s₃) ∧
      (∀ D T₁ T₂ n s', T₁ ≠ T₂ → In K s₀ env (upd m y (.ref D)) cm ((D, .ob (lstO [.ref T₁, .ref T₂] n)) :: (T₁, .tw (g v₁)) :: (T₂, .tw (g v₂)) :: N) s' → Q .next s')) E s)
    (hs : ∀ x, foldedSetIterable iter env x = pure x := by intro _; rfl) :
    wpAny (model prog w) A (exec (.Assign [.Name y py] (.ListComp elt [⟨.Name x px, iter, [], 0⟩] scope pos) spos) env) Q E s := by
  refine assignO (fun _ => true) (fun v its => ∃ l, its = (strValues l).toArray ∧ l.map (·.1) = g v) hsw hclos hcell hkind hnames hx hy (by rw [O.kind]; rfl) (wpAny_mono h (fun xv s₁ h₁ => ?_) fun _ _ e => e) hs
  obtain ⟨m, cm, N, a, v₁, v₂, rfl, I, ha, helt, hQ⟩ := h₁
  have fin : ∀ (it : Addr) (s₂ : Shared) (St : Nat → Heap → Prop), In K s₀ env m cm N s₂ → Off s₀ env N it → Walks prog w A it [it, a] [it] 2 (fun i v => #[v₁, v₂][i]? = some v) St → (∀ i h, St i h → ∃ o, h.get? it = some o) → St 0 s₂.heap → a < s₂.heap.objs.size → it < s₂.heap.objs.size →
      ∃ I fp wr n P St m, (Value.ref it : Value) = .ref I ∧ Walks prog w A I fp wr n P St ∧ n ≤ sizeLine ∧ (∀ i h, St i h → ∀ b ∈ wr, ∃ o, h.get? b = some o) ∧ St 0 s₂.heap ∧ (∀ b ∈ fp, b < s₂.heap.objs.size) ∧
      env.locals ∉ wr ∧ s₂.heap.Ns env.locals m ∧ QuietOnCO prog w A env scope cl x [] elt wr P (fun _ => true) (fun v its => ∃ l, its = (strValues l).toArray ∧ l.map (·.1) = g v) s₂ ∧
      (∀ D h' tk ys (vs : List Value), s₂.heap.get? D = none → h'.PlainList D ys → vs.length = n → (∀ j v, vs[j]? = some v → P j v) → Paired (LstIs s₂.heap (fun v its => ∃ l, its = (strValues l).toArray ∧ l.map (·.1) = g v) h') (vs.filter fun _ => true) ys.toList → ys.toList.Pairwise (· ≠ ·) →
        h'.Ns env.locals (fun z => if z = y then some (.ref D) else m z) → (∀ b o, b ≠ env.locals → b ∉ wr → s₂.heap.get? b = some o → h'.get? b = some o) → Q .next { s₂ with heap := h', toks := tk }) := by
    intro it s₂ St I₂ F W hlive hst hla hli
    refine ⟨it, _, _, _, _, _, m, rfl, W, by rw [sizeLine_eq]; decide, fun i h hs b hb => by rw [List.mem_singleton.mp hb]; exact hlive i h hs, hst, ?_, fun q => F.loc (List.mem_singleton.mp q).symm, I₂.ns, ⟨?_, ?_⟩, ?_⟩
    · intro b hb
      rcases List.mem_cons.mp hb with rfl | hb
      · exact hli
      · rw [List.mem_singleton.mp hb]; exact hla
    · intro C i v s₃ m₃ E' _ hv hn hm hk _
      exact wpAny_tests_nil ⟨rfl, Keeps.refl' _⟩
    · intro C i v s₃ m₃ E' _ hv _ hn hm hk _
      have hvv : v = v₁ ∨ v = v₂ := by
        match i, hv with
        | 0, hv => exact .inl (Option.some.inj hv).symm
        | 1, hv => exact .inr (Option.some.inj hv).symm
      refine wpAny_mono (helt v hvv C s₃ m₃ E' (I₂.compF F hcl hn hk) hm) (fun y s₄ hy => ?_) fun _ _ e => e
      obtain ⟨⟨T, rfl, hT, hI⟩, k⟩ := hy
      obtain ⟨l, hl, e⟩ := hI.tw
      exact ⟨⟨T, _, rfl, hT, hl, l, rfl, e⟩, k⟩
    · intro D h' tk ys vs hD hpl hlen hvs hF hnd hns hk
      obtain rfl : vs = [v₁, v₂] := by
        match vs, hlen, hvs with
        | [a, b], _, hvs =>
          have h0 := hvs 0 a rfl
          have h1 := hvs 1 b rfl
          simp at h0 h1
          rw [h0, h1]
      obtain ⟨n, hpl⟩ := hpl
      rw [List.filter_eq_self.mpr (fun _ _ => rfl)] at hF
      obtain ⟨ys⟩ := ys
      dsimp only at hF hnd hpl
      cases hF with
      | cons f1 r1 =>
        cases r1 with
        | cons f2 r2 =>
          cases r2
          obtain ⟨T₁, i₁, rfl, n₁, l₁, L₁, rfl, g₁⟩ := f1
          obtain ⟨T₂, i₂, rfl, n₂, l₂, L₂, rfl, g₂⟩ := f2
          have hne : T₁ ≠ T₂ := fun q => by
            have := List.pairwise_cons.mp hnd
            exact this.1 _ (List.mem_singleton.mpr rfl) (by rw [q])
          have kk : ∀ b o, b ≠ env.locals → b ≠ it → s₂.heap.get? b = some o → h'.get? b = some o := fun b o hb hb' e => hk b o hb (fun q => hb' (List.mem_singleton.mp q)) e
          refine hQ D T₁ T₂ n _ hne ?_
          refine In.add (In.add (In.add ?_ ?_) ?_) ?_
          · refine ⟨?_, hns, fun k c hc => ?_, fun p hp => (I₂.led p hp).keeps fun o e => kk _ _ (still_ne I₂.ns (I₂.led p hp)) (F.led p hp) e, I₂.wd⟩
            · obtain ⟨hh', t', e', kk'⟩ := I₂.ks
              subst e'
              exact ⟨h', tk, rfl, fun b o e => kk b o (fun q => by rw [q] at e; exact absurd (Heap.lt_size e) (Nat.not_lt.mpr O.lo)) (fun q => by rw [q, F.base] at e; cases e) (kk' b o e)⟩
            · obtain ⟨oc, e, r⟩ := id (I₂.cell k c hc)
              exact ⟨oc, kk _ _ (Nat.ne_of_gt (O.above k c (mem_of_lookup hc))) (Ne.symm (F.cell k c hc)) e, r⟩
          · obtain ⟨o, ho, hc, n', hd⟩ := l₂
            exact ⟨o, ho, hc, L₂, n', hd, g₂⟩
          · obtain ⟨o, ho, hc, n', hd⟩ := l₁
            exact ⟨o, ho, hc, L₁, n', hd, g₁⟩
          · exact ⟨_, hpl, rfl, rfl⟩
  have hla : a < s₁.heap.objs.size := by
    rcases ha with ha | ⟨n, ha⟩
    · exact Heap.lt_size (I.get ha).ob
    · exact Heap.lt_size (I.get ha).ob
  have Fit := I.off (Nat.le_refl _)
  rcases ha with ha | ⟨n, ha⟩
  · have htup : s₁.heap.IsTuple a #[v₁, v₂] := ⟨_, (I.get ha).ob, rfl, _, rfl⟩
    refine wpAny_pyIter_tuple htup ?_
    refine fin s₁.heap.objs.size (s₂ := { s₁ with heap := s₁.heap.push { cls := .type "tuple_iterator", data := .fields #[.ref a, .int 0 0] } }) _ (I.kp Keeps.push) Fit (Walks.tuple hh _ a (Nat.ne_of_lt hla) #[v₁, v₂]) (fun i h hs => ?_) ⟨⟨_, Heap.get?_push_size _ rfl, rfl, rfl⟩, htup.push _⟩ ?_ ?_
    · obtain ⟨⟨o, e, _⟩, _⟩ := hs; exact ⟨o, e⟩
    · show a < (s₁.heap.push _).objs.size
      rw [Heap.size_push]; exact Nat.lt_succ_of_lt hla
    · show s₁.heap.objs.size < (s₁.heap.push _).objs.size
      rw [Heap.size_push]; exact Nat.lt_succ_self _
  · have hl : s₁.heap.IsList a #[v₁, v₂] := ⟨_, (I.get ha).ob, rfl, _, rfl⟩
    refine wpAny_pyIter_list hl ?_
    refine fin s₁.heap.objs.size (s₂ := { s₁ with heap := s₁.heap.push (liO a) }) _ (I.kp Keeps.push) Fit (Walks.list hh _ a (Nat.ne_of_lt hla) #[v₁, v₂]) (fun i h hs => ?_) ⟨⟨_, Heap.get?_push_size _ rfl, rfl, rfl⟩, hl.push _⟩ ?_ ?_
    · obtain ⟨⟨o, e, _⟩, _⟩ := hs; exact ⟨o, e⟩
    · show a < (s₁.heap.push _).objs.size
      rw [Heap.size_push]; exact Nat.lt_succ_of_lt hla
    · show s₁.heap.objs.size < (s₁.heap.push _).objs.size
      rw [Heap.size_push]; exact Nat.lt_succ_self _
end

/-! more rules: loose lists, tuples, the one target -/
section
variable {K : Frag} {s₀ s : Shared} {env : Env} {m cm : Str → Option Value} {N : List (Addr × Kd)} {prog : Program} {w : World} {A : Around} {E : Value → Shared → Prop} {Q : Value → Shared → Prop} {a b : Addr} {xs : List Str} {x : Str} {t u : Tok} {value slice : Expr} {l : Value}
theorem itW {k : Int} (I : In K s₀ env m cm N s) (ha : (a, .tw xs) ∈ N) (h0 : 0 ≤ k) (hb : xs.length ≤ 100000) (hx : xs[k.toNat]? = some x) (h : ∀ t, Q (.str x t) s)
    (hs : subscripted slice false (.ref a) (.int k u) = operate [.ref a, .int k u] (getItem (.ref a) (.int k u)) := by with_unfolding_all rfl) :
    wpAny (model prog w) A (subscriptTail value slice (.ref a) (.int k u)) Q E s := by
  obtain ⟨l, hl, e⟩ := (I.get ha).tw
  obtain ⟨t, ht⟩ := sv_get e hx
  have hlt : k.toNat < xs.length := (List.getElem?_eq_some_iff.mp hx).1
  exact tail_any hl.typeIs slot_list_getitem.lookup (wpAny_getItem_list hl h0 (by omega) (by simpa using ht) (h t)) hs
theorem slW {a c : Addr} {lo hi : Option Int} {u : Value} (I : In K s₀ env m cm N s) (hc : (c, .ob (slcO l u)) ∈ N) (ha : (a, .tw xs) ∈ N) (pl : IsPart l lo) (pu : IsPart u hi) (hb : xs.length ≤ 100000)
    (h : ∀ b s', New s₀ N b → In K s₀ env m cm ((b, .tl (sl xs lo hi)) :: N) s' → Q (.ref b) s')
    (hs : subscripted slice false (.ref a) (.ref c) = operate [.ref c, .ref a] (getItem (.ref a) (.ref c)) := by with_unfolding_all rfl) :
    wpAny (model prog w) A (subscriptTail value slice (.ref a) (.ref c)) Q E s := by
  obtain ⟨l', hl, e⟩ := (I.get ha).tw
  have hsl := (I.get hc).ob
  refine tail_any hl.typeIs slot_list_getitem.lookup (wpAny_getItem_list_slice hl ⟨_, hsl, rfl, rfl⟩ pl pu .none (by simp) ?_ (by simp only [List.size_toArray, sizeLine_eq, sv_len e]; omega)) hs
  have := h _ _ I.new (I.pushed (xs := sl xs lo hi) ((l'.drop (lo.elim 0 (clipAt xs.length))).take (hi.elim xs.length (clipAt xs.length) - lo.elim 0 (clipAt xs.length))) (by simp [sl, ← e, List.map_take, List.map_drop]) s.toks)
  rw [slicePick_plain]
  simpa [sv_take, sv_drop, sv_len e] using this
theorem truthyT {B : Bool → Shared → Prop} {v : Value} {vs : List Value} (I : In K s₀ env m cm N s) (ha : (a, .ob (tupO (v :: vs))) ∈ N) (hl : vs.length ≤ 1000) (h : ∀ s', In K s₀ env m cm N s' → B true s') : wpAny (model prog w) A (truthy (.ref a)) B E s := by
  refine truthy_tuple (I.get ha).tup (by simp; omega) ?_
  rw [show (!(v :: vs).toArray.isEmpty) = true from rfl]
  exact h _ (I.kp Keeps.tok)
theorem mapTwo' {a f : Addr} {x y : Str} {Q Q₀ : Value → Shared → Prop} (hw : ∀ v s₁, wpAny (model prog w) A (call (.type "tuple") [v]) Q E s₁ → Q₀ v s₁) (I : In K s₀ env m cm N s) (hh : A.handled = none) (ha : (a, .tl [x, y]) ∈ N) (hN : ∀ p ∈ N, p.2.cls ≠ .type "list_iterator")
    (hf : ∀ z t s' Q, Wd K s'.heap → (∀ s'', Keeps s' s'' → Q (.str z t) s'') → wpAny (model prog w) A.in1.in1.in1.in1 (call (.ref f) [.str z t]) Q (fun _ _ => False) s')
    (h : ∀ T t u s', New s₀ N T → In K s₀ env m cm ((T, .ob (tupO [.str x t, .str y u])) :: N) s' → Q (.ref T) s') :
    wpAny (model prog w) A (call (.type "map") [.ref f, .ref a]) Q₀ E s := wpAny_mono (mapTwo I hh ha hN hf h) hw fun _ _ e => e
theorem asgSet {D : Addr} {ep : Nat} {x : Str} {px tp : Pos} {k : Nat} {R : Unit → Shared → Prop} (O : Own s₀ env) (I : In K s₀ env m cm N s) (hh : A.handled = none) (hD : s.heap.get? D = some (setO #[(1, .bool true)] ep (tb1 (!w.params.followText "set-order"))))
    (h : ∀ s', In K s₀ env (upd m x (.bool true)) cm N s' → R () s') (hx : env.kindOf x = some .local := by rfl) :
    wpAny (model prog w) A (assign (.Tuple [.Name x px] k tp) env (.ref D)) R E s := by
  show wpAny _ _ (do standAt tp; unpack (.ref D) (assignEach [.Name x px] env)) R E s
  unfold unpack
  refine wpAny_bind (wpAny_standAt (wpAny_bind (wpAny_holding (unpack_set hh hD rfl fun h' he => ?_))))
  have I' := I.kp (Keeps.ext he)
  refine assignInOrder_cons (wpAny_assign_Name (st O I' (fun s₂ I₂ => ?_) hx))
  exact assignInOrder_nil (h _ I₂)
end

/-! commonpath, of two -/
def comPre : List Str → List Str → List Str
  | x :: xs, y :: ys => if x = y then x :: comPre xs ys else []
  | _, _ => []
theorem com_le : ∀ (xs ys : List Str), comPre xs ys = xs.take (comPre xs ys).length
  | [], _ => by simp [comPre]
  | _ :: _, [] => by simp [comPre]
  | x :: xs, y :: ys => by
    unfold comPre
    by_cases h : x = y
    · rw [if_pos h, List.length_cons, List.take_succ_cons, ← com_le xs ys]
    · rw [if_neg h]; rfl
theorem com_step : ∀ {xs ys : List Str} {i : Nat} {x y : Str}, i ≤ (comPre xs ys).length → xs[i]? = some x → ys[i]? = some y → (x = y ↔ i < (comPre xs ys).length)
  | [], _, _, _, _, _, h, _ => by simp at h
  | _ :: _, [], _, _, _, _, _, h => by simp at h
  | a :: xs, b :: ys, i, x, y, hi, hx, hy => by
    unfold comPre at hi ⊢
    by_cases h : a = b
    · rw [if_pos h] at hi ⊢
      cases i with
      | zero =>
        simp at hx hy
        simp [← hx, ← hy, h]
      | succ i =>
        simp only [List.length_cons, Nat.add_le_add_iff_right, Nat.add_lt_add_iff_right, List.getElem?_cons_succ] at *
        exact com_step hi hx hy
    · rw [if_neg h] at hi ⊢
      have hi0 : i = 0 := by simpa using hi
      subst hi0
      simp at hx hy
      simp [← hx, ← hy, h]
theorem com_comm : ∀ (xs ys : List Str), comPre xs ys = comPre ys xs
  | [], [] => rfl
  | [], _ :: _ => rfl
  | _ :: _, [] => rfl
  | x :: xs, y :: ys => by
    unfold comPre
    by_cases h : x = y
    · rw [if_pos h, if_pos h.symm, com_comm xs ys, h]
    · rw [if_neg h, if_neg (Ne.symm h)]
theorem lt_com : ∀ {xs ys : List Str}, ltL xs ys = true → (comPre xs ys).length < ys.length
  | [], [], h => by simp [ltL] at h
  | [], _ :: _, _ => by simp [comPre]
  | _ :: _, [], h => by simp [ltL] at h
  | x :: xs, y :: ys, h => by
    unfold comPre
    unfold ltL at h
    by_cases e : x = y
    · rw [if_pos e] at h ⊢
      simpa using lt_com h
    · rw [if_neg e]; simp
theorem nm_lt : ∀ x ∈ names4, ∀ y ∈ names4, x ≠ y → (cs x < cs y ∨ cs y < cs x) ∧ ¬ (cs x < cs y ∧ cs y < cs x) := by
  decide
theorem lt_not : ∀ {xs ys : List Str}, (∀ x ∈ xs, Nm x) → (∀ y ∈ ys, Nm y) → ltL xs ys = true → ltL ys xs = false
  | [], [], _, _, h => by simp [ltL] at h
  | [], _ :: _, _, _, _ => rfl
  | _ :: _, [], _, _, h => by simp [ltL] at h
  | x :: xs, y :: ys, hx, hy, h => by
    unfold ltL at h ⊢
    by_cases e : x = y
    · rw [if_pos e] at h
      rw [if_pos e.symm]
      exact lt_not (fun z hz => hx z (.tail _ hz)) (fun z hz => hy z (.tail _ hz)) h
    · rw [if_neg e] at h
      rw [if_neg (Ne.symm e)]
      have := (nm_lt x (hx x (.head _)) y (hy y (.head _)) e).2
      exact decide_eq_false fun q => this ⟨of_decide_eq_true h, q⟩
theorem lt_eq : ∀ {xs ys : List Str}, (∀ x ∈ xs, Nm x) → (∀ y ∈ ys, Nm y) → ltL xs ys = false → ltL ys xs = false → xs = ys
  | [], [], _, _, _, _ => rfl
  | [], _ :: _, _, _, h, _ => by simp [ltL] at h
  | _ :: _, [], _, _, _, h => by simp [ltL] at h
  | x :: xs, y :: ys, hx, hy, h, h' => by
    unfold ltL at h h'
    by_cases e : x = y
    · rw [if_pos e] at h
      rw [if_pos e.symm] at h'
      rw [e, lt_eq (fun z hz => hx z (.tail _ hz)) (fun z hz => hy z (.tail _ hz)) h h']
    · rw [if_neg e] at h
      rw [if_neg (Ne.symm e)] at h'
      rcases (nm_lt x (hx x (.head _)) y (hy y (.head _)) e).1 with q | q
      · exact absurd q (of_decide_eq_false h)
      · exact absurd q (of_decide_eq_false h')
theorem com_self (xs : List Str) : comPre xs xs = xs := by
  induction xs with
  | nil => rfl
  | cons x xs ih => unfold comPre; rw [if_pos rfl, ih]
theorem isiSB {K : Frag} {s₀ s : Shared} {env : Env} {m cm : Str → Option Value} {N : List (Addr × Kd)} {prog : Program} {w : World} {A : Around} {E : Value → Shared → Prop} {Q : Value → Shared → Prop} {x : Str} {t : Tok} (I : In K s₀ env m cm N s) (h : ∀ s', In K s₀ env m cm N s' → Q (.bool false) s') :
    wpAny (model prog w) A (call (.builtin "isinstance") [.str x t, .type "bytes"]) Q E s := IsiPair.str_bytes (h _ (I.kp Keeps.tok))
theorem Is.loose {h : Heap} {a : Addr} {xs : List Str} (x : Is h a (.tl xs)) : Is h a (.tw xs) := by
  obtain ⟨o, e, l, n, rfl, r⟩ := x
  exact ⟨_, e, rfl, l, n, rfl, r⟩
theorem cl_one {cells : List (Str × Addr)} {k : Str} {v : Addr} (hk : cells.lookup k = some v) : ∀ n c, [(k, v)].lookup n = some c → cells.lookup n = some c := by
  intro n c h
  rw [List.lookup_cons] at h
  by_cases e : n = k
  · subst e; simp at h; rw [hk, h]
  · rw [beq_false_of_ne e] at h; simp at h
def gS : Value → List Str
  | .str x _ => Txt.split x "/"
  | _ => []
theorem split_names {p : List Str} (hp : ∀ x ∈ p, Nm x) : (Txt.split (pathS p) "/").filter (fun x : Str => decide (x.length ≠ 0) && decide (x ≠ ".")) = p := by
  have hk : p.filter (fun x : Str => decide (x.length ≠ 0) && decide (x ≠ ".")) = p := List.filter_eq_self.mpr fun x hx => by
    obtain ⟨⟨c, r, e, _⟩, _, _, h4, _⟩ := nm_facts _ (hp x hx)
    have : x.length ≠ 0 := by rw [← cs_length, e]; simp
    simp [this, h4]
  by_cases h0 : p = []
  · subst h0; rw [split_root]; rfl
  · rw [split_path hp h0, List.filter_cons_of_neg (by decide), hk]
theorem split_short {p : List Str} (hp : ∀ x ∈ p, Nm x) (lp : p.length ≤ 20) : (Txt.split (pathS p) "/").length ≤ 30 ∧ ∀ x ∈ Txt.split (pathS p) "/", x.length ≤ 3 := by
  by_cases h0 : p = []
  · subst h0; rw [split_root]; exact ⟨by decide, by intro x hx; simp at hx; subst hx; decide⟩
  · rw [split_path hp h0]
    refine ⟨by simp; omega, fun x hx => ?_⟩
    rcases List.mem_cons.mp hx with rfl | hx
    · decide
    · exact (nm_facts _ (hp x hx)).2.2.2.2
def gR (T₁ : Addr) (p q : List Str) : Value → List Str
  | .ref X => if X = T₁ then p else q
  | _ => []
set_option maxHeartbeats 4000000 in
theorem common_does {w : World} {p q : List Str} {a : Addr} (hp : ∀ x ∈ p, Nm x) (hq : ∀ x ∈ q, Nm x) (lp : p.length ≤ 20) (lq : q.length ≤ 20) :
    Does w 8 141 [.ref a] (fun s => Is s.heap a (.tl [pathS p, pathS q])) (fun _ v _ => ∃ t, v = .str (pathS (comPre p q)) t) := by
  unfold Does
  k_fill
  intro A s E Q W r hpre h
  refine' enter [("paths", .ref a)] (upd (fun _ => none) "paths" (.ref a)) (fun _ => none) W r.room ?ho ?hc ?hb ?hk ?h1 ?h2 ?h3 ?hm ?hcm ?_
  walk_at "ent"
  intro L s₁ O I
  have I1 := I.add (hpre.keeps fun o e => I.old e)
  clear I
  have l1 := path_len hp
  have l2 := path_len hq
  walk_at "w"
  refine' mapTwo' ?hw I1 r.deeper.hh (.head _) (by simp [Kd.cls]) (fun z t s' Q W' hq' => fspath_does _ _ _ _ W' (r.deeper.in1.in1.in1.in1.le (by decide)) trivial fun v s'' k e => e ▸ hq' s'' k) ?_
  case hw =>
    intro v s₁ h
    walk_at "w"
    exact h
  intro T t u s' _ I2
  walk_at "w"
  refine truthyT (by assumption) (.head _) (by simp) ?_
  intro _ _
  rw [if_neg (by simp)]
  walk_at "w"
  rename_i I3
  refine item_tuple (I3.get (.head _)).tup (by decide) (by decide) (j := 0) rfl rfl ?_
  walk_at "w"
  refine isiSB (by assumption) ?_
  intro _ _
  walk_at "w"
  refine split_bool (fun q => nomatch q) (fun _ => ?_)
  walk_at "w"
  refine try_ok ?_
  walk_at "w"
  refine' comp_two (K := hd.heap_39 w.params) (s₀ := s) gS ?hsw ?hclos ?hcl ?hcell ?hkind ?hnames ?hx ?hy O r.deeper.hh ?_ ?hs
  case hsw => exact rfl
  case hclos => exact rfl
  case hcl => exact cl_one rfl
  case hcell => decide
  case hkind => exact rfl
  case hnames => decide
  case hx => exact rfl
  case hy => exact rfl
  case hs => exact fun _ => rfl
  walk_at "v"
  rename_i I5
  refine ⟨_, _, _, T, .str (pathS p) t, .str (pathS q) u, rfl, I5, .inl (.head _), ?_, ?_⟩
  · intro v hv C s₃ m₃ E' I6 hm
    obtain ⟨z, tz, rfl, hz⟩ : ∃ z tz, v = .str z tz ∧ z.length ≤ 1000 := by
      rcases hv with rfl | rfl
      · exact ⟨_, _, rfl, by omega⟩
      · exact ⟨_, _, rfl, by omega⟩
    walk_at "v"
    refine splitS (by assumption) rfl (by omega) ?_
    intro b _ nb I7
    exact ⟨⟨b, rfl, nb.1, (I7.get (.head _)).loose⟩, I7.ks⟩
  · intro D T₁ T₂ n s' hne I6
    walk_at "w"
    refine try_ok ?_
    refine wpAny_execs_cons ?_
    refine Assign_Tuple ?_ rfl rfl
    refine' setcomp_two (K := hd.heap_39 w.params) (s₀ := s) ?sclos ?scl ?scell ?skind ?snames ?sx r.deeper.hh ?_ ?ss
    case sclos => exact rfl
    case scl => exact cl_one rfl
    case scell => decide
    case skind => exact rfl
    case snames => decide
    case sx => exact rfl
    case ss => exact fun _ => rfl
    walk_at "v"
    refine ⟨_, _, _, T, .str (pathS p) t, .str (pathS q) u, rfl, I6, .tail _ (.tail _ (.tail _ (.head _))), ?_, ?_⟩
    · intro v hv C s₃ m₃ I7 hm
      obtain ⟨z, tz, rfl, hz⟩ : ∃ z tz, v = .str z tz ∧ Txt.startswith z "/" = true := by
        rcases hv with rfl | rfl
        · exact ⟨_, _, rfl, path_starts p⟩
        · exact ⟨_, _, rfl, path_starts q⟩
      walk_at "v"
      rw [hz]
      exact ⟨rfl, I7.ks⟩
    · intro SD ep s7 hSD _ I7
      refine asgSet O I7 r.deeper.hh hSD ?_ rfl
      clear I7 I6
      intro s8 I8
      refine wpAny_execs_nil ?_
      refine wpAny_execs_cons ?_
      refine' comp_two (K := hd.heap_39 w.params) (s₀ := s) (gR T₁ p q) ?xsw ?xclos ?xcl ?xcell ?xkind ?xnames ?xx ?xy O r.deeper.hh ?_ ?xs
      case xsw => exact rfl
      case xclos => exact rfl
      case xcl => exact cl_one rfl
      case xcell => decide
      case xkind => exact rfl
      case xnames => decide
      case xx => exact rfl
      case xy => exact rfl
      case xs => exact fun _ => rfl
      walk_at "v"
      refine ⟨_, _, _, D, .ref T₁, .ref T₂, rfl, I8, .inr ⟨n, .head _⟩, ?_, ?_⟩
      · intro v hv C s₃ m₃ E' I9 hm
        obtain ⟨X, ps, rfl, hX, hps, hgx, hlp⟩ : ∃ X ps, v = .ref X ∧ (X, Kd.tw (Txt.split (pathS ps) "/")) ∈ [(D, Kd.ob (lstO [.ref T₁, .ref T₂] n)), (T₁, .tw (gS (.str (pathS p) t))), (T₂, .tw (gS (.str (pathS q) u))), (T, .ob (tupO [.str (pathS p) t, .str (pathS q) u])), (a, .tl [pathS p, pathS q])] ∧ (∀ x ∈ ps, Nm x) ∧ gR T₁ p q (.ref X) = ps ∧ ps.length ≤ 20 := by
          rcases hv with rfl | rfl
          · exact ⟨T₁, p, rfl, .tail _ (.head _), hp, if_pos rfl, lp⟩
          · exact ⟨T₂, q, rfl, .tail _ (.tail _ (.head _)), hq, if_neg (Ne.symm hne), lq⟩
        have I10 := I9.fewer (N' := [(X, .tw (Txt.split (pathS ps) "/"))]) (by intro z hz; rw [List.mem_singleton.mp hz]; exact hX)
        obtain ⟨hsl, hse⟩ := split_short hps hlp
        have hsn := split_names hps
        generalize Txt.split (pathS ps) "/" = SP at *
        clear I9
        rw [hgx]
        refine' comp_expr (K := hd.heap_39 w.params) (s₀ := s₃) (a := X) (k := .tw SP) (onS fun x : Str => decide (x.length ≠ 0) && decide (x ≠ ".")) (mapS fun x => x) ?yclos ?ycl ?ycell ?ykind ?ynames ?yx r.deeper.hh ?_ ?ys
        case yclos => exact rfl
        case ycl => exact cl_one rfl
        case ycell => decide
        case ykind => exact rfl
        case ynames => decide
        case yx => exact rfl
        case ys => exact fun _ => rfl
        walk_at "v"
        refine ⟨_, _, _, X, .tw SP, rfl, I10, .head _, rfl, by show SP.length ≤ 100000; omega, by simp [Kd.isL], ⟨?_, ?_⟩, ?_⟩
        · rintro C2 i _ s4 m4 E4 ⟨x, tx, hx, rfl⟩ I11 hv4
          refine wpAny_tests_one ?_
          have hx3 := hse x (List.mem_of_getElem? hx)
          walk_at "v"
          refine truthyS (by assumption) (by omega) ?_
          intro s5 I12
          refine split_dec (fun q1 => ?_) (fun q1 => ?_)
          · walk_at "v"
            by_cases q2 : x = "."
            · rw [if_neg (by simp [q2])]
              exact ⟨by simp [onS, q2], I12.ks⟩
            · rw [if_pos (by simpa using q2)]
              walk_at "v"
              exact ⟨by simp [onS, q1, q2], I12.ks⟩
          · exact ⟨by simp only [onS]; rw [decide_eq_false q1]; rfl, I12.ks⟩
        · rintro C2 i _ s4 m4 E4 ⟨x, tx, hx, rfl⟩ _ I11 hv4
          walk_at "v"
          exact ⟨⟨x, tx, tx, rfl, rfl⟩, I11.ks⟩
        · intro D2 s4 vs ys n2 hV hP hD hf I11
          have := comp_is (xs := SP) hV hP hD
          rw [hsn, List.map_id'] at this
          exact ⟨⟨D2, rfl, hf, this.loose⟩, I11.ks⟩
      · intro D₂ U₁ U₂ n₂ s9 hne2 I9
        rw [show gR T₁ p q (.ref T₁) = p from if_pos rfl, show gR T₁ p q (.ref T₂) = q from if_neg (Ne.symm hne)] at I9
        have I10 := I9.fewer (N' := [(D₂, .ob (lstO [.ref U₁, .ref U₂] n₂)), (U₁, .tw p), (U₂, .tw q)]) (by
          intro z hz
          simp only [List.mem_cons, List.not_mem_nil, or_false] at hz ⊢
          rcases hz with h | h | h <;> simp [h])
        clear I9 I8
        walk_at "w"
        refine minTwo I10 (.head _) (.tail _ (.head _)) (.tail _ (.tail _ (.head _))) r.deeper.hh r.deeper.in1.line ?_
        intro s11 I11
        walk_at "w"
        refine maxTwo (by assumption) (.head _) (.tail _ (.head _)) (.tail _ (.tail _ (.head _))) r.deeper.hh r.deeper.in1.line ?_
        intro s12 I12
        iterate 6 walk_at "m"
        rename_i I13
        obtain ⟨X1, X2, xs, ys, e1, e2, h1, h2, hc, hle, hpx, lx, ly⟩ : ∃ X1 X2 xs ys, (if ltL q p = true then Value.ref U₂ else .ref U₁) = .ref X1 ∧ (if ltL p q = true then Value.ref U₂ else .ref U₁) = .ref X2 ∧
            (X1, Kd.tw xs) ∈ [(D₂, .ob (lstO [.ref U₁, .ref U₂] n₂)), (U₁, .tw p), (U₂, .tw q)] ∧ (X2, Kd.tw ys) ∈ [(D₂, .ob (lstO [.ref U₁, .ref U₂] n₂)), (U₁, .tw p), (U₂, .tw q)] ∧ comPre xs ys = comPre p q ∧ (xs = ys ∨ (comPre xs ys).length < ys.length) ∧ (∀ x ∈ xs, Nm x) ∧ xs.length ≤ 20 ∧ ys.length ≤ 20 := by
          cases hb : ltL q p with
          | true =>
            rw [lt_not hq hp hb]
            exact ⟨U₂, U₁, q, p, rfl, rfl, .tail _ (.tail _ (.head _)), .tail _ (.head _), com_comm q p, .inr (lt_com hb), hq, lq, lp⟩
          | false =>
            cases hb2 : ltL p q with
            | true => exact ⟨U₁, U₂, p, q, rfl, rfl, .tail _ (.head _), .tail _ (.tail _ (.head _)), rfl, .inr (lt_com hb2), hp, lp, lq⟩
            | false =>
              have e := lt_eq hp hq hb2 hb
              exact ⟨U₁, U₁, p, p, rfl, rfl, .tail _ (.head _), .tail _ (.head _), by rw [e], .inl rfl, hp, lp, lp⟩
        rw [e1, e2] at I13
        have I14 := I13.fewer (N' := [(X1, .tw xs), (X2, .tw ys)]) (by
          intro z hz
          simp only [List.mem_cons, List.not_mem_nil, or_false] at hz
          rcases hz with rfl | rfl
          · exact h1
          · exact h2)
        clear I13 I12 I11 I10
        refine cutE (fun K s₀ env s' => ∃ (tc td : Tok) (m' : Str → Option Value) (N' : List (Addr × Kd)) (Cm : Addr), In K s₀ env m' (upd (upd (fun _ => none) "sep" (.str "/" tc)) "curdir" (.str "." td)) N' s' ∧ m' "common" = some (.ref Cm) ∧ (Cm, .tw (comPre xs ys)) ∈ N' ∧ m' "isabs" = some (.bool true)) I14 ?_ ?_
        · walk_at "w"
          refine for_enum_lst (n := xs.length) (fun i m cm N => N = [(X1, .tw xs), (X2, .tw ys)] ∧ (∃ tc td, cm = upd (upd (fun _ => none) "sep" (.str "/" tc)) "curdir" (.str "." td)) ∧ m "common" = some (.ref X1) ∧ m "s1" = some (.ref X1) ∧ m "s2" = some (.ref X2) ∧ m "isabs" = some (.bool true) ∧ i ≤ (comPre xs ys).length)
            (fun _ _ => .tw xs) O r.deeper.hh I14 ⟨rfl, ⟨_, _, rfl⟩, rfl, rfl, rfl, rfl, Nat.zero_le _⟩ ?_ rfl rfl ?_ ?_
          · rintro i m cm N ⟨rfl, _⟩
            exact ⟨.head _, rfl, rfl, by simp [Kd.isL]⟩
          · rintro i _ t' m' _ _ L' s' hin ⟨x, tx, hx, rfl⟩ ⟨rfl, ⟨tc, td, rfl⟩, k1, k2, k3, k4, hile⟩ hLN I15
            obtain ⟨y, hy⟩ : ∃ y, ys[i]? = some y := by
              rcases hle with e | e
              · rw [← e]; exact ⟨_, hx⟩
              · exact ⟨_, List.getElem?_eq_getElem (Nat.lt_of_le_of_lt hile e)⟩
            have hst := com_step hile hx hy
            walk_at "w"
            refine itW (by assumption) (.tail _ (.head _)) (by omega) (by omega) (x := y) (by simpa using hy) ?_
            intro _
            walk_at "w"
            by_cases hxy : x = y
            · rw [if_neg (by simpa using hxy)]
              walk_at "w"
              refine TurnEnd.go I15 ?_
              exact ⟨rfl, ⟨_, _, rfl⟩, k1, k2, k3, k4, hst.mp hxy⟩
            · rw [if_pos (by simpa using hxy)]
              walk_at "w"
              refine slW (by assumption) (.head _) (.tail _ (.head _)) .none (.int _ _) (by omega) ?_
              rw [sl_to, show xs.take i = comPre xs ys by
                rw [com_le xs ys, show (comPre xs ys).length = i from Nat.le_antisymm (Nat.le_of_not_lt fun q => hxy (hst.mpr q)) hile]]
              intro Cm _ _ I16
              have I17 := I16.wide
              walk_at "w"
              rename_i I18
              refine ⟨tc, td, _, _, Cm, I18, ?_⟩
              exact ⟨rfl, .head _, k4⟩
          · rintro m' _ _ s' ⟨rfl, ⟨tc, td, rfl⟩, k1, k2, k3, k4, hile⟩ I15
            have e : comPre xs ys = xs := by
              rw [com_le xs ys]
              exact List.take_of_length_le hile
            exact ⟨tc, td, m', _, X1, I15, k1, by rw [e]; exact .head _, k4⟩
        · rintro s15 ⟨tc, td, m', N', Cm, I15, k1, k2, k3⟩
          rw [hc] at k2
          have hcp : ∀ x ∈ comPre p q, Nm x ∧ x.length ≤ 3 := fun x hx => by
            rw [com_le p q] at hx
            have := hp x (List.mem_of_mem_take hx)
            exact ⟨this, (nm_facts _ this).2.2.2.2⟩
          have hcl : (comPre p q).length ≤ 20 := by
            rw [com_le p q, List.length_take]; omega
          walk_at "w"
          refine IfExp_ ?_
          walk_at "w"
          refine split_bool (fun _ => ?_) (fun q => nomatch q)
          walk_at "w"
          refine joinW (by assumption) k2 (join_short rfl (fun y hy => Nat.le_trans (hcp y hy).2 (by decide)) (by omega)).1 ?_
          intro _ _ _
          walk_at "w"
          have hjl := path_len (p := comPre p q) (fun x hx => (hcp x hx).1)
          refine addS (by assumption) ?_ ?_
          · have := (join_short (sep := "/") rfl (fun y hy => Nat.le_trans (hcp y hy).2 (by decide)) (by omega : (comPre p q).length ≤ 300)).2
            show 1 + _ ≤ _
            omega
          intro _ _ I16
          walk_at "w"
          exact h _ _ I16.ks ⟨_, rfl⟩

/-! index -/
section
variable {K : Frag} {s₀ s : Shared} {env : Env} {m cm : Str → Option Value} {N : List (Addr × Kd)} {M : Model} {prog : Program} {w : World} {A : Around} {E : Value → Shared → Prop} {Q : Value → Shared → Prop} {a : Addr} {xs : List Str} {y : Str} {t : Tok}
theorem getIndex {pl : Sem Bool} {Q : Value × List Value → Shared → Prop} (I : In K s₀ env m cm N s) (ha : (a, .tl xs) ∈ N) (h : Q (.builtin "list.index", [.ref a]) s) : wpAny M A (getMethod (.ref a) "index" pl) Q E s := by
  obtain ⟨l, n, hl, e⟩ := I.isL ha
  exact getMethod_builtin hl.isList.typeIs F.plainAttrs_list F.slot_list_index F.type_list_index (fun b hb => by cases hb; exact ⟨_, hl, rfl⟩) h
theorem indexL (I : In K s₀ env m cm N s) (ha : (a, .tl xs) ∈ N) (hb : xs.length ≤ 100000) (hy : y ∈ xs) (h : ∀ t s', In K s₀ env m cm N s' → Q (.int (xs.idxOf y : Nat) t) s') : wpAny (model prog w) A (call (.builtin "list.index") [.ref a, .str y t]) Q E s := by
  obtain ⟨l, n, hl, e⟩ := I.isL ha
  have hj : xs.idxOf y < xs.length := List.idxOf_lt_length_iff.mpr hy
  have hj' : xs.idxOf y < (strValues l).toArray.size := by rw [List.size_toArray, sv_len e]; exact hj
  have hat : ∀ m (hm : m < (strValues l).toArray.size), isV y (strValues l).toArray[m] = decide (xs[m]'(by rw [List.size_toArray, sv_len e] at hm; exact hm) = y) := by
    intro m hm
    subst e
    simp [strValues, isV]
  refine call_meets F.slot_list_index ⟨_, hl, rfl⟩ F.entry_list_index (F.args_list_index_2 _ _) (MeetsSeq.list_index a (strValues l).toArray n (.str y t) (isV y) (fun v hv => ?_) (xs.idxOf y) hj' (by omega) ?_ ?_) ⟨hl, h _ _ (I.kp Keeps.tok)⟩
  · obtain ⟨q, hq, rfl⟩ := List.mem_map.mp (List.mem_toArray.mp hv)
    exact isV_gives _ _ _ _
  · rw [hat]; simp
  · intro m hm hlt
    rw [hat]
    exact decide_eq_false fun q => by
      have := List.not_of_lt_findIdx (p := (· == y)) (xs := xs) hlt
      simp [q] at this
end

/-! _law_renamed, plain -/
abbrev Pth := List Str
def aboveOf (P : List Pth) (g : Nat) : Pth := if g = 0 then [] else P.getD (g - 1) []
def lastN (pl : Pth) : Str := pl.getLastD ""
def hangP (pl ab x : Pth) : Pth := ab ++ [lastN pl] ++ x.drop pl.length
def putP (P : List Pth) (g : Nat) (ab : Pth) (old new : List Pth) : List Pth :=
  if new.headD [] ∈ P then P
  else
    let left := P.filter fun x => decide (x ∉ old)
    let at' := if g = 0 then 0 else left.idxOf ab + 1
    left.take at' ++ new ++ left.drop at'
def renP (P : List Pth) (d : Nat) : List Pth :=
  let g := goalOf P.length d
  let mo := moreOf P.length d
  let ab := aboveOf P g
  if d % 3 = 0 then if 6 ≤ P.length then P else putP P g ab [] [ab ++ [nameOf mo]]
  else
    let pl := P.getD (mo % P.length) []
    if comPre ab pl = pl then P
    else
      let old := P.filter fun x => decide (comPre pl x = pl)
      putP P g ab old (old.map (hangP pl ab))
structure OkP (P : List Pth) : Prop where
  ne : P ≠ []
  len : P.length ≤ 6
  ok : ∀ x ∈ P, x ≠ [] ∧ x.length ≤ 10 ∧ ∀ n ∈ x, Nm n
theorem path_mem {P : List Pth} {x : Pth} (hP : ∀ x ∈ P, ∀ n ∈ x, Nm n) (hx : ∀ n ∈ x, Nm n) : pathS x ∈ P.map pathS ↔ x ∈ P := by
  constructor
  · intro h
    obtain ⟨y, hy, e⟩ := List.mem_map.mp h
    rw [pathS_inj hx (hP y hy) e.symm]; exact hy
  · exact fun h => List.mem_map_of_mem h
theorem path_idx {P : List Pth} {x : Pth} (hP : ∀ x ∈ P, ∀ n ∈ x, Nm n) (hx : ∀ n ∈ x, Nm n) : (P.map pathS).idxOf (pathS x) = P.idxOf x := by
  induction P with
  | nil => rfl
  | cons y P ih =>
    rw [List.map_cons, List.idxOf_cons, List.idxOf_cons, ih (fun z hz => hP z (.tail _ hz))]
    by_cases e : y = x
    · rw [e]; simp
    · have : pathS y ≠ pathS x := fun q => e (pathS_inj (hP y (.head _)) hx q)
      rw [beq_false_of_ne e, beq_false_of_ne this]
theorem com_pre : ∀ {xs ys : List Str}, comPre xs ys = xs ↔ xs <+: ys
  | [], ys => by simp [comPre]
  | x :: xs, [] => by simp [comPre]
  | x :: xs, y :: ys => by
    unfold comPre
    by_cases e : x = y
    · rw [if_pos e, List.cons_prefix_cons, ← com_pre (xs := xs) (ys := ys)]
      simp [e]
    · rw [if_neg e, List.cons_prefix_cons]
      simp [e]

/-! _law_renamed -/
local macro_rules | `(tactic| walk_at "mem") => `(tactic| repeat (first | exact List.Mem.head _ | refine List.Mem.tail _ ?_))
theorem cl_two {cells : List (Str × Addr)} {k₁ k₂ : Str} {v₁ v₂ : Addr} (h1 : cells.lookup k₁ = some v₁) (h2 : cells.lookup k₂ = some v₂) : ∀ n c, [(k₁, v₁), (k₂, v₂)].lookup n = some c → cells.lookup n = some c := by
  intro n c h
  rw [List.lookup_cons] at h
  by_cases e : n = k₁
  · subst e; simp at h; rw [h1, h]
  · rw [beq_false_of_ne e] at h; exact cl_one h2 n c h
def hangT (old : List Pth) (pl ab : Pth) (z : Str) : Str := match old.find? (fun x => decide (pathS x = z)) with
  | some x => pathS (hangP pl ab x)
  | none => z
theorem hangT_is {old : List Pth} {pl ab x : Pth} (hn : ∀ y ∈ old, ∀ n ∈ y, Nm n) (hx : x ∈ old) : hangT old pl ab (pathS x) = pathS (hangP pl ab x) := by
  unfold hangT
  cases e : old.find? (fun y => decide (pathS y = pathS x)) with
  | none => exact absurd (List.find?_eq_none.mp e x hx) (by simp)
  | some y =>
    have h1 : pathS y = pathS x := by simpa using List.find?_some e
    have := pathS_inj (hn y (List.mem_of_find?_eq_some e)) (hn x hx) h1
    rw [this]
set_option maxHeartbeats 4000000 in
theorem renamed_does {w : World} {P : List Pth} {a : Addr} {d : Nat} {u : Tok} (hP : OkP P) (hd9 : d < 360) : Does w 16 172 [.ref a, .int (d : Int) u] (fun s => Is s.heap a (.tl (P.map pathS))) (fun _ v s' => ∃ b, v = .ref b ∧ Is s'.heap b (.tl ((renP P d).map pathS))) := by
  unfold Does
  k_fill
  intro A s E Q W r hpre h
  refine' enter [("table", .ref a), ("draw", .int (d : Int) u)] (upd (upd (fun _ => none) "table" (.ref a)) "draw" (.int (d : Int) u)) (fun _ => none) W r.room ?ho ?hc ?hb ?hk ?h1 ?h2 ?h3 ?hm ?hcm ?_
  walk_at "ent"
  intro L s₁ O I
  have I1 := I.add (hpre.keeps fun o e => I.old e)
  clear I
  have hn6 : (P.map pathS).length ≤ 100000 := by have := hP.len; simp; omega
  walk_at "w"
  refine divI (by assumption) (by omega) (by omega) (by decide) (by decide) ?_
  intro _ _ _
  walk_at "w"
  refine lenL (by assumption) (.head _) hn6 ?_
  intro _ _ _
  walk_at "w"
  refine modI (by assumption) (by omega) (by omega) ?_
  have hg : (d : Int) / 3 % (((P.map pathS).length : Int) + 1) = ((goalOf P.length d : Nat) : Int) := by simp [goalOf]
  rw [hg]
  intro _ _ _
  walk_at "w"
  refine divI (by assumption) (by omega) (by omega) (by decide) (by decide) ?_
  intro _ _ _
  walk_at "w"
  refine lenL (by assumption) (.head _) hn6 ?_
  intro _ _ _
  walk_at "w"
  refine divI (by assumption) (by omega) (by omega) (by omega) (by simp; have := hP.len; omega) ?_
  have hmo : (d : Int) / 3 / (((P.map pathS).length : Int) + 1) = ((moreOf P.length d : Nat) : Int) := by simp [moreOf]
  rw [hmo]
  intro _ _ _
  have hgn : goalOf P.length d ≤ P.length := Nat.le_of_lt_succ (Nat.mod_lt _ (Nat.succ_pos _))
  have hE : renP P d = (if d % 3 = 0 then if 6 ≤ P.length then P else putP P (goalOf P.length d) (aboveOf P (goalOf P.length d)) [] [aboveOf P (goalOf P.length d) ++ [nameOf (moreOf P.length d)]]
    else if comPre (aboveOf P (goalOf P.length d)) (P.getD (moreOf P.length d % P.length) []) = P.getD (moreOf P.length d % P.length) [] then P
      else putP P (goalOf P.length d) (aboveOf P (goalOf P.length d)) (P.filter fun x => decide (comPre (P.getD (moreOf P.length d % P.length) []) x = P.getD (moreOf P.length d % P.length) []))
        ((P.filter fun x => decide (comPre (P.getD (moreOf P.length d % P.length) []) x = P.getD (moreOf P.length d % P.length) [])).map (hangP (P.getD (moreOf P.length d % P.length) []) (aboveOf P (goalOf P.length d))))) := rfl
  generalize goalOf P.length d = g at *
  generalize moreOf P.length d = mo at *
  have hab : (∀ n ∈ aboveOf P g, Nm n) ∧ (aboveOf P g).length ≤ 10 ∧ (g ≠ 0 → aboveOf P g ∈ P) := by
    unfold aboveOf
    split
    · exact ⟨by simp, by simp, fun q => absurd ‹g = 0› q⟩
    · have hx : P.getD (g - 1) [] ∈ P := by
        rw [List.getD_eq_getElem?_getD, List.getElem?_eq_getElem (by omega)]
        exact List.getElem_mem _
      exact ⟨(hP.ok _ hx).2.2, (hP.ok _ hx).2.1, fun _ => hx⟩
  have hPn : ∀ x ∈ P, ∀ n ∈ x, Nm n := fun x hx => (hP.ok x hx).2.2
  walk_at "v"
  rename_i I5
  refine cutS (x := pathS (aboveOf P g)) I5 ?_ ?_
  · refine IfExp_ ?_
    walk_at "v"
    by_cases hg0 : g = 0
    · rw [if_pos (by simp [hg0])]
      walk_at "v"
      exact ⟨_, congrArg (fun z => Value.str z _) (by simp [aboveOf, hg0]; decide), by assumption⟩
    · rw [if_neg (by simpa using hg0)]
      obtain ⟨x, hx⟩ : ∃ p, P[g - 1]? = some p := ⟨P[g - 1]'(by omega), List.getElem?_eq_getElem (by omega)⟩
      walk_at "v"
      refine itL (by assumption) (.head _) (by omega) hn6 (x := pathS x) (by rw [List.getElem?_map]; rw [show ((g : Int) - 1).toNat = g - 1 by omega, hx]; rfl) ?_
      intro _
      refine ⟨_, congrArg (fun z => Value.str z _) ?_, by assumption⟩
      simp [aboveOf, hg0, List.getD_eq_getElem?_getD, hx]
  intro t5 _ _
  generalize aboveOf P g = ab at *
  walk_at "v"
  rename_i I6
  refine cutE (fun K s₀ env s' => ∃ (old new : List Pth) (bo bn : Addr) (m' cm' : Str → Option Value), In K s₀ env m' cm' [(bn, .tl (new.map pathS)), (bo, .tl (old.map pathS)), (a, .tl (P.map pathS))] s' ∧
    m' "new" = some (.ref bn) ∧ m' "table" = some (.ref a) ∧ (∃ tg, m' "goal" = some (.int (g : Int) tg)) ∧ (∃ ta, cm' "above" = some (.str (pathS ab) ta)) ∧ cm' "old" = some (.ref bo) ∧
    renP P d = putP P g ab old new ∧ (∃ n0 r, new = n0 :: r) ∧ new.length ≤ 6 ∧ (∀ x ∈ new, ∀ n ∈ x, Nm n) ∧ (∀ x ∈ old, x ∈ P) ∧ (g ≠ 0 → ab ∉ old)) I6 ?_ ?_
  · refine wpAny_If ?_
    walk_at "v"
    refine modI (by assumption) (by omega) (by decide) ?_
    intro _ _ _
    walk_at "v"
    by_cases hd3 : d % 3 = 0
    · rw [if_pos (by simp; omega)]
      rw [if_pos hd3] at hE
      walk_at "w"
      refine lenL (by assumption) (.head _) hn6 ?_
      intro _ _ _
      walk_at "v"
      by_cases h6 : 6 ≤ P.length
      · rw [if_pos (by simp; omega)]
        rw [if_pos h6] at hE
        walk_at "v"
        rename_i I7
        exact h _ _ I7.ks ⟨a, rfl, by rw [hE]; exact I7.get (.head _)⟩
      · rw [if_neg (by simp; omega)]
        rw [if_neg h6] at hE
        walk_at "v"
        refine newL (l := []) (by assumption) rfl ?_
        intro bo _ nbo _
        walk_at "v"
        refine Does.use (name_does (nameOf mo) (nameOf_get mo)) (by assumption) r.deeper (by decide) trivial ?_
        rintro _ _ _ ⟨_, rfl⟩
        walk_at "v"
        have hnm := nameOf_nm mo
        have hal := path_len hab.1
        refine Does.use (join_does (path_ne _) (nm_starts hnm) (by omega) (by have := (nm_facts _ hnm).2.2.2.2; omega)) (by assumption) r.deeper (by decide) trivial ?_
        rintro _ _ _ ⟨_, rfl⟩
        rw [join_path hab.1]
        walk_at "v"
        refine newL (l := [(pathS (ab ++ [nameOf mo]), _)]) (by assumption) rfl ?_
        intro bn _ nbn _
        walk_at "v"
        rename_i I7
        refine ⟨[], [ab ++ [nameOf mo]], bo, bn, _, _, I7, ?_⟩
        refine ⟨rfl, rfl, ⟨_, rfl⟩, ⟨_, rfl⟩, rfl, hE, ⟨_, _, rfl⟩, by simp, ?_, by simp, by simp⟩
        intro x hx n hn
        rw [List.mem_singleton.mp hx] at hn
        rcases List.mem_append.mp hn with hn | hn
        · exact hab.1 n hn
        · rw [List.mem_singleton.mp hn]; exact hnm
    · rw [if_neg (by simp; omega)]
      rw [if_neg hd3] at hE
      walk_at "v"
      refine lenL (by assumption) (.head _) hn6 ?_
      intro _ _ _
      have hpos : 0 < P.length := List.length_pos_iff.mpr hP.ne
      refine modI (by assumption) (by omega) (by simp; omega) ?_
      have hf : (mo : Int) % ((P.map pathS).length : Int) = ((mo % P.length : Nat) : Int) := by simp
      rw [hf]
      intro _ _ _
      have hfl : mo % P.length < P.length := Nat.mod_lt _ hpos
      generalize mo % P.length = f at *
      obtain ⟨pl, hpl⟩ : ∃ p, P[f]? = some p := ⟨P[f]'hfl, List.getElem?_eq_getElem hfl⟩
      rw [show P.getD f [] = pl by rw [List.getD_eq_getElem?_getD, hpl]; rfl] at hE
      have hplP := List.mem_of_getElem? hpl
      obtain ⟨hpl0, hpl1, hpl2⟩ := hP.ok pl hplP
      walk_at "v"
      refine itL (by assumption) (.head _) (by omega) hn6 (x := pathS pl) (by rw [List.getElem?_map, Int.toNat_natCast, hpl]; rfl) ?_
      intro _
      walk_at "w"
      refine newL (l := [(pathS ab, _), (pathS pl, _)]) (by assumption) rfl ?_
      intro bq _ nbq I7
      walk_at "w"
      refine Does.use (common_does hab.1 hpl2 (by omega) (by omega)) I7 r.deeper (by decide) (I7.get (.head _)) ?_
      rintro _ _ I8 ⟨_, rfl⟩
      have hcn : ∀ {xs ys : List Str}, (∀ n ∈ xs, Nm n) → ∀ n ∈ comPre xs ys, Nm n := fun {xs ys} hx n hn => hx n (by rw [com_le xs ys] at hn; exact List.mem_of_mem_take hn)
      walk_at "w"
      by_cases hca : comPre ab pl = pl
      · rw [if_pos (by simp [hca])]
        rw [if_pos hca] at hE
        walk_at "w"
        exact h _ _ I8.ks ⟨a, rfl, by rw [hE]; exact I8.get (.tail _ (.head _))⟩
      · rw [if_neg (by simpa using fun q => hca (pathS_inj (hcn hab.1) hpl2 q))]
        rw [if_neg hca] at hE
        have I9 := I8.fewer (N' := [(a, .tl (P.map pathS))]) (by intro z hz; exact .tail _ hz)
        clear I8 I7
        have hoe : ∀ x ∈ P, (pathS x ∈ (P.filter fun x => decide (comPre pl x = pl)).map pathS ↔ comPre pl x = pl) := fun x hx => by
          rw [path_mem (fun y hy => hPn y (List.mem_filter.mp hy).1) (hPn x hx), List.mem_filter]
          simp [hx]
        have hof : (P.map pathS).filter (fun z => decide (z ∈ (P.filter fun x => decide (comPre pl x = pl)).map pathS)) = (P.filter fun x => decide (comPre pl x = pl)).map pathS := by
          rw [List.filter_map]
          congr 1
          refine List.filter_congr fun x hx => ?_
          simp only [Function.comp]
          exact decide_eq_decide.mpr (hoe x hx)
        have hoP : ∀ x ∈ P.filter (fun x => decide (comPre pl x = pl)), x ∈ P ∧ pl <+: x := fun x hx => ⟨(List.mem_filter.mp hx).1, com_pre.mp (by simpa using (List.mem_filter.mp hx).2)⟩
        have hplo : pl ∈ P.filter (fun x => decide (comPre pl x = pl)) := List.mem_filter.mpr ⟨hplP, by simpa using com_self pl⟩
        have hol : (P.filter fun x => decide (comPre pl x = pl)).length ≤ 6 := Nat.le_trans (List.length_filter_le _ _) hP.len
        have hao : ab ∉ P.filter (fun x => decide (comPre pl x = pl)) := fun q => hca (by rw [com_comm]; simpa using (List.mem_filter.mp q).2)
        generalize (P.filter fun x => decide (comPre pl x = pl)) = old at *
        walk_at "w"
        refine' comp_expr (K := hd.heap_39 w.params) (s₀ := s) (a := a) (k := .tl (P.map pathS)) (onS fun z => decide (z ∈ old.map pathS)) (mapS fun x => x) ?yclos ?ycl ?ycell ?ykind ?ynames ?yx r.deeper.hh ?_ ?yfold
        case yclos => exact rfl
        case ycl => exact cl_one rfl
        case ycell => decide
        case ykind => exact rfl
        case ynames => decide
        case yx => exact rfl
        case yfold => exact fun _ => rfl
        walk_at "v"
        refine ⟨_, _, _, a, .tl (P.map pathS), rfl, I9, .head _, rfl, hn6, by simp [Kd.isL], ⟨?_, ?_⟩, ?_⟩
        · rintro C i _ s3 m3 E' ⟨z, t, hz, rfl⟩ I3 hv
          obtain ⟨x, hx, rfl⟩ := List.mem_map.mp (List.mem_of_getElem? hz)
          refine wpAny_tests_one ?_
          walk_at "v"
          refine newL (l := [(pathS pl, _), (pathS x, _)]) (by assumption) rfl ?_
          intro bq _ nbq I4
          walk_at "v"
          refine Does.use (common_does hpl2 (hPn x hx) (by omega) (by have := (hP.ok x hx).2.1; omega)) I4 r.deeper (by decide) (I4.get (.head _)) ?_
          rintro _ _ I5 ⟨_, rfl⟩
          walk_at "v"
          refine ⟨?_, I5.ks⟩
          show _ = decide (pathS x ∈ old.map pathS)
          rw [decide_eq_decide.mpr (hoe x hx)]
          by_cases q : comPre pl x = pl
          · simp [q]
          · rw [decide_eq_false q]
            exact decide_eq_false fun q' => q (pathS_inj (hcn hpl2) hpl2 q')
        · rintro C i _ s3 m3 E' ⟨x, t, hx, rfl⟩ _ I3 hv
          walk_at "v"
          exact ⟨⟨x, t, t, rfl, rfl⟩, I3.ks⟩
        · intro bo s' vs ys n hV hP' hD hf I10
          have I11 := (I10.add (comp_is hV hP' hD)).re (ys := old.map pathS) (by rw [hof]; simp)
          clear I10 I9
          have hon : ∀ x ∈ old, ∀ n ∈ x, Nm n := fun x hx => hPn x (hoP x hx).1
          obtain ⟨q, n0, hq0⟩ : ∃ q n0, pl = q ++ [n0] := ⟨pl.dropLast, pl.getLast hpl0, (List.dropLast_concat_getLast hpl0).symm⟩
          subst hq0
          have hlast : lastN (q ++ [n0]) = n0 := by unfold lastN; simp
          walk_at "v"
          refine' comp_assign (K := hd.heap_39 w.params) (s₀ := s) (onS fun _ => true) (mapS (hangT old (q ++ [n0]) ab)) ?zsw ?zclos ?zcl ?zcell ?zkind ?znames ?zx ?zy O r.deeper.hh ?_ ?zfold
          case zsw => exact rfl
          case zclos => exact rfl
          case zcl => exact cl_two rfl rfl
          case zcell => decide
          case zkind => exact rfl
          case znames => decide
          case zx => exact rfl
          case zy => exact rfl
          case zfold => exact fun _ => rfl
          walk_at "v"
          rename_i I12
          refine ⟨_, _, _, bo, .tl (old.map pathS), rfl, I12, .head _, rfl, by show (old.map pathS).length ≤ 100000; rw [List.length_map]; omega, by simp [Kd.isL], ⟨?_, ?_⟩, ?_⟩
          · rintro C i _ s3 m3 E' ⟨x, t, hx, rfl⟩ I3 hv
            exact wpAny_tests_nil ⟨rfl, Keeps.refl' _⟩
          · rintro C i _ s3 m3 E' ⟨z, t, hz, rfl⟩ _ I3 hv
            obtain ⟨x, hx, rfl⟩ := List.mem_map.mp (List.mem_of_getElem? hz)
            obtain ⟨rr, hrr⟩ := (hoP x hx).2
            have hxn := hon x hx
            have hxl := (hP.ok x (hoP x hx).1).2.1
            have hhang : hangP (q ++ [n0]) ab x = ab ++ [n0] ++ rr := by
              unfold hangP; rw [hlast, ← hrr, List.drop_left]
            show wpAny _ _ _ (fun y s₄ => mapS (hangT old (q ++ [n0]) ab) (.str (pathS x) t) y ∧ Keeps s3 s₄) _ _
            have hgt := hangT_is (pl := q ++ [n0]) (ab := ab) hon hx
            rw [hhang] at hgt
            have hxe : x = q ++ [n0] ++ rr := hrr.symm
            rw [hxe] at hv hxn hxl hgt ⊢
            walk_at "v"
            have hqq : ∀ n ∈ q, Nm n := fun n hn => hpl2 n (by simp [hn])
            have hn0 : Nm n0 := hpl2 n0 (by simp)
            have hrl : rr.length ≤ 9 := by simp at hxl; omega
            have hql : q.length ≤ 10 := by simp at hpl1; omega
            have hrn : ∀ n ∈ rr, Nm n := fun n hn => hxn n (by simp [hn])
            refine Does.use (hung_does hqq hab.1 hn0 (by omega) (by omega) rr.length rr _ _ _ rfl (by omega) hrn) I3 r.deeper (by omega) trivial ?_
            rintro _ _ I4 ⟨t9, rfl⟩
            exact ⟨⟨_, _, t9, rfl, by rw [hgt]⟩, I4.ks⟩
          · intro bn s' vs ys n hV hP' hD hf I13
            have I14 := (I13.add (comp_is hV hP' hD)).re (ys := (old.map (hangP (q ++ [n0]) ab)).map pathS) (by
              rw [List.filter_eq_self.mpr (fun _ _ => rfl), List.map_map, List.map_map]
              exact List.map_congr_left fun x hx => hangT_is hon hx)
            walk_at "v"
            refine ⟨old, old.map (hangP (q ++ [n0]) ab), bo, bn, _, _, I14, ?_⟩
            refine ⟨rfl, rfl, ⟨_, rfl⟩, ⟨_, rfl⟩, rfl, hE, ?_, by rw [List.length_map]; exact hol, ?_, fun x hx => (hoP x hx).1, fun _ => hao⟩
            · cases hoo : old with
              | nil => rw [hoo] at hplo; cases hplo
              | cons y r => exact ⟨_, _, rfl⟩
            · intro y hy n hn
              obtain ⟨x, hx, rfl⟩ := List.mem_map.mp hy
              unfold hangP at hn
              rcases List.mem_append.mp hn with hn | hn
              · rcases List.mem_append.mp hn with hn | hn
                · exact hab.1 n hn
                · rw [List.mem_singleton.mp hn, hlast]; exact hpl2 n0 (by simp)
              · exact hon x hx n (List.mem_of_mem_drop hn)
  · rintro s9 ⟨old, new, bo, bn, m9, cm9, I9, e1, e2, ⟨tg, e3⟩, ⟨ta, e4⟩, e5, hE9, ⟨n0, rn, hn0⟩, hnl, hnn, hoP, hao⟩
    walk_at "w"
    refine itL (by assumption) (.head _) (by decide) (by rw [List.length_map]; omega) (x := pathS n0) (by rw [hn0]; rfl) ?_
    intro _
    rename_i I10 _
    clear I9
    walk_at "w"
    refine inL (by assumption) (.tail _ (.tail _ (.head _))) ?_
    walk_at "w"
    have hmem := path_mem (x := n0) hPn (hnn n0 (by rw [hn0]; exact .head _))
    have hput : putP P g ab old new = if n0 ∈ P then P else (P.filter fun x => decide (x ∉ old)).take (if g = 0 then 0 else (P.filter fun x => decide (x ∉ old)).idxOf ab + 1) ++ new ++ (P.filter fun x => decide (x ∉ old)).drop (if g = 0 then 0 else (P.filter fun x => decide (x ∉ old)).idxOf ab + 1) := by
      unfold putP; rw [hn0]; rfl
    rw [hput] at hE9
    by_cases hin : n0 ∈ P
    · rw [if_pos (by simpa using hmem.mpr hin)]
      rw [if_pos hin] at hE9
      walk_at "w"
      exact h _ _ I10.ks ⟨a, rfl, by rw [hE9]; exact I10.get (.tail _ (.tail _ (.head _)))⟩
    · rw [if_neg (by simpa using fun x hx q => hin (hmem.mp (List.mem_map.mpr ⟨x, hx, q⟩)))]
      rw [if_neg hin] at hE9
      have hlm : (P.map pathS).filter (fun z => !decide (z ∈ old.map pathS)) = (P.filter fun x => decide (x ∉ old)).map pathS := by
        rw [List.filter_map]
        congr 1
        refine List.filter_congr fun x hx => ?_
        have := path_mem (x := x) (P := old) (fun y hy => hPn y (hoP y hy)) (hPn x hx)
        by_cases q : x ∈ old
        · simp only [Function.comp, decide_eq_true (this.mpr q)]
          simp [q]
        · simp only [Function.comp, decide_eq_false (fun z => q (this.mp z))]
          simp [q]
      have hla : g ≠ 0 → ab ∈ P.filter fun x => decide (x ∉ old) := fun q => List.mem_filter.mpr ⟨hab.2.2 q, by simpa using hao q⟩
      have hll : (P.filter fun x => decide (x ∉ old)).length ≤ 6 := Nat.le_trans (List.length_filter_le _ _) hP.len
      have hln : ∀ x ∈ P.filter (fun x => decide (x ∉ old)), ∀ n ∈ x, Nm n := fun x hx => hPn x (List.mem_filter.mp hx).1
      generalize (P.filter fun x => decide (x ∉ old)) = left at *
      walk_at "w"
      refine' comp_assign (K := hd.heap_39 w.params) (s₀ := s) (onS fun z => !decide (z ∈ old.map pathS)) (mapS fun x => x) ?hsw ?hclos ?hcl ?hcell ?hkind ?hnames ?hx ?hy O r.deeper.hh ?_ ?hs
      case hsw => exact rfl
      case hclos => exact rfl
      case hcl => exact cl_one rfl
      case hcell => decide
      case hkind => exact rfl
      case hnames => decide
      case hx => exact rfl
      case hy => exact rfl
      case hs => exact fun _ => rfl
      walk_at "v"
      refine ⟨_, _, _, a, .tl (P.map pathS), rfl, I10, .tail _ (.tail _ (.head _)), rfl, hn6, by simp [Kd.isL], ⟨?_, ?_⟩, ?_⟩
      · rintro C i _ s3 m3 E' ⟨x, t, hx, rfl⟩ I3 hv
        refine wpAny_tests_one ?_
        walk_at "v"
        refine ninL (by assumption) (.tail _ (.head _)) ?_
        walk_at "v"
        exact ⟨rfl, I3.ks⟩
      · rintro C i _ s3 m3 E' ⟨x, t, hx, rfl⟩ _ I3 hv
        walk_at "v"
        exact ⟨⟨x, t, t, rfl, rfl⟩, I3.ks⟩
      · intro D s' vs ys n hV hP' hD hf I11
        have I12 := (I11.add (comp_is hV hP' hD)).re (ys := left.map pathS) (by rw [hlm]; simp)
        clear I11
        walk_at "v"
        refine cutJ (i := ((if g = 0 then 0 else left.idxOf ab + 1 : Nat) : Int)) I12 ?_ ?_
        · refine IfExp_ ?_
          walk_at "v"
          by_cases hg0 : g = 0
          · rw [if_pos (by simp [hg0])]
            walk_at "v"
            exact ⟨_, congrArg (fun z => Value.int z _) (by simp [hg0]), by assumption⟩
          · rw [if_neg (by simpa using hg0)]
            walk_at "v"
            refine getIndex (by assumption) (.head _) ?_
            walk_at "v"
            refine indexL (by assumption) (.head _) (by rw [List.length_map]; omega) (List.mem_map_of_mem (hla hg0)) ?_
            rw [path_idx hln hab.1]
            intro _ _ _
            walk_at "v"
            exact ⟨_, congrArg (fun z => Value.int z _) (by simp [hg0]), by assumption⟩
        intro _ _ _
        generalize (if g = 0 then 0 else left.idxOf ab + 1) = at' at *
        walk_at "w"
        refine slT (by assumption) (.head _) (by walk_at "mem") .none (.int _ _) (by rw [List.length_map]; omega) ?_
        rw [sl_to, ← List.map_take]
        intro _ _ _ _
        walk_at "w"
        refine catL (by assumption) (by walk_at "mem") (by walk_at "mem") (by simp; omega) ?_
        rw [← List.map_append]
        intro _ _ _ _
        walk_at "w"
        refine slT (by assumption) (.head _) (by walk_at "mem") (.int _ _) .none (by rw [List.length_map]; omega) ?_
        rw [sl_n, ← List.map_drop]
        intro _ _ _ _
        refine catL (by assumption) (by walk_at "mem") (by walk_at "mem") (by simp; omega) ?_
        rw [← List.map_append, ← hE9]
        intro bz _ _ I20
        walk_at "w"
        exact h _ _ I20.ks ⟨bz, rfl, I20.get (.head _)⟩

/-! the paths that an outline tells -/
def toldFrom : Pth → List Rw → List Pth
  | _, [] => []
  | c, (k, n) :: T => (c.take k ++ [n]) :: toldFrom (c.take k ++ [n]) T
def ctx : Pth → List Rw → Pth
  | c, [] => c
  | c, (k, n) :: T => ctx (c.take k ++ [n]) T
abbrev toldP (T : List Rw) : List Pth := toldFrom [] T
def VT : Nat → List Rw → Prop
  | _, [] => True
  | h, (k, _) :: T => k ≤ h ∧ VT (k + 1) T
theorem told_app : ∀ (c : Pth) (X Y : List Rw), toldFrom c (X ++ Y) = toldFrom c X ++ toldFrom (ctx c X) Y
  | _, [], _ => rfl
  | c, (k, n) :: X, Y => by
    show _ :: toldFrom _ (X ++ Y) = _ :: (toldFrom _ X ++ _)
    rw [told_app]; rfl
theorem ctx_app : ∀ (c : Pth) (X Y : List Rw), ctx c (X ++ Y) = ctx (ctx c X) Y
  | _, [], _ => rfl
  | c, (k, n) :: X, Y => ctx_app _ X Y
theorem told_len : ∀ (c : Pth) (T : List Rw), (toldFrom c T).length = T.length
  | _, [] => rfl
  | c, (k, n) :: T => by show (toldFrom _ T).length + 1 = T.length + 1; rw [told_len]
/-- two contexts that are alike for a text's first row -/
def Agree (c c' : Pth) : List Rw → Prop
  | [] => True
  | (k, _) :: _ => c.take k = c'.take k
theorem told_agree {c c' : Pth} : ∀ {Y : List Rw}, Agree c c' Y → toldFrom c Y = toldFrom c' Y
  | [], _ => rfl
  | (k, n) :: Y, h => by
    show (c.take k ++ [n]) :: toldFrom (c.take k ++ [n]) Y = (c'.take k ++ [n]) :: toldFrom (c'.take k ++ [n]) Y
    rw [show c.take k = c'.take k from h]
theorem ctx_agree {c c' : Pth} : ∀ {Y : List Rw}, Y ≠ [] → Agree c c' Y → ctx c Y = ctx c' Y
  | [], h, _ => absurd rfl h
  | (k, n) :: Y, _, h => by
    show ctx (c.take k ++ [n]) Y = ctx (c'.take k ++ [n]) Y
    rw [show c.take k = c'.take k from h]
theorem told_shift (a : Pth) : ∀ (b : Pth) (B : List Rw), toldFrom (a ++ b) (putT a.length B) = (toldFrom b B).map (a ++ ·)
  | _, [] => rfl
  | b, (k, n) :: B => by
    have e : (a ++ b).take (a.length + k) = a ++ b.take k := by rw [List.take_append, List.take_of_length_le (Nat.le_add_right _ _)]; simp
    have e2 : a ++ b.take k ++ [n] = a ++ (b.take k ++ [n]) := by simp
    show ((a ++ b).take (a.length + k) ++ [n]) :: toldFrom ((a ++ b).take (a.length + k) ++ [n]) (putT a.length B) = (a ++ (b.take k ++ [n])) :: (toldFrom (b.take k ++ [n]) B).map (a ++ ·)
    rw [e, e2, told_shift a _ B]
theorem ctx_shift (a : Pth) : ∀ (b : Pth) (B : List Rw), ctx (a ++ b) (putT a.length B) = a ++ ctx b B
  | _, [] => rfl
  | b, (k, n) :: B => by
    have e : (a ++ b).take (a.length + k) = a ++ b.take k := by rw [List.take_append, List.take_of_length_le (Nat.le_add_right _ _)]; simp
    have e2 : a ++ b.take k ++ [n] = a ++ (b.take k ++ [n]) := by simp
    show ctx ((a ++ b).take (a.length + k) ++ [n]) (putT a.length B) = a ++ ctx (b.take k ++ [n]) B
    rw [e, e2, ctx_shift a _ B]
theorem told_close : ∀ {c : Pth} {A : List Rw} {x y : Pth}, x ∈ toldFrom c A → y <+: x → y ∈ toldFrom c A ∨ y <+: c
  | _, [], _, _, hx, _ => nomatch hx
  | c, (k, n) :: A, x, y, hx, hy => by
    have head : y <+: c.take k ++ [n] → y ∈ toldFrom c ((k, n) :: A) ∨ y <+: c := by
      intro h
      rcases List.prefix_concat_iff.mp h with e | e
      · exact .inl (e ▸ .head _)
      · exact .inr (e.trans (List.take_prefix _ _))
    rcases List.mem_cons.mp hx with rfl | hx
    · exact head hy
    · rcases told_close hx hy with h | h
      · exact .inl (.tail _ h)
      · exact head h
theorem told_ne : ∀ {c : Pth} {A : List Rw} {x : Pth}, x ∈ toldFrom c A → x ≠ []
  | _, [], _, h => nomatch h
  | c, (k, n) :: A, x, h => by
    rcases List.mem_cons.mp h with rfl | h
    · simp
    · exact told_ne h
theorem told_ctx_len : ∀ {c : Pth} {T : List Rw}, VT c.length T → (T ≠ [] → ∃ p, T.getLast? = some p ∧ (ctx c T).length = p.1 + 1)
  | _, [], _, h => absurd rfl h
  | c, [(k, n)], h, _ => ⟨(k, n), rfl, by show (c.take k ++ [n]).length = k + 1; have := h.1; simp; omega⟩
  | c, (k, n) :: q :: T, h, _ => by
    have hl : (c.take k ++ [n]).length = k + 1 := by have := h.1; simp; omega
    have h2 : VT (c.take k ++ [n]).length (q :: T) := by rw [hl]; exact h.2
    obtain ⟨p, hp, e⟩ := told_ctx_len (c := c.take k ++ [n]) (T := q :: T) h2 (by simp)
    exact ⟨p, by rw [List.getLast?_cons_cons]; exact hp, e⟩
theorem VT_split : ∀ {c : Pth} {X Y : List Rw}, VT c.length (X ++ Y) ↔ VT c.length X ∧ VT (ctx c X).length Y
  | c, [], Y => by simp [VT, ctx]
  | c, (k, n) :: X, Y => by
    show (k ≤ c.length ∧ VT (k + 1) (X ++ Y)) ↔ (k ≤ c.length ∧ VT (k + 1) X) ∧ VT (ctx (c.take k ++ [n]) X).length Y
    by_cases hk : k ≤ c.length
    · have hl : (c.take k ++ [n]).length = k + 1 := by simp; omega
      have := VT_split (c := c.take k ++ [n]) (X := X) (Y := Y)
      rw [hl] at this
      rw [this]
      simp [hk]
    · simp [hk]

/-! what an edit does to the told paths -/
theorem told_last : ∀ {c : Pth} {A : List Rw}, A ≠ [] → ∃ X, toldFrom c A = X ++ [ctx c A]
  | _, [], h => absurd rfl h
  | c, [(k, n)], _ => ⟨[], rfl⟩
  | c, (k, n) :: q :: A, _ => by
    obtain ⟨X, e⟩ := told_last (c := c.take k ++ [n]) (A := q :: A) (by simp)
    exact ⟨(c.take k ++ [n]) :: X, by show _ :: toldFrom _ (q :: A) = _; rw [e]; rfl⟩
theorem VT_put {h : Nat} : ∀ {j : Nat} {B : List Rw}, VT j B → VT (h + j) (putT h B)
  | _, [], _ => trivial
  | j, (k, n) :: B, hB => ⟨Nat.add_le_add_left hB.1 h, VT_put hB.2⟩
theorem VT_mono : ∀ {h h' : Nat} {B : List Rw}, h ≤ h' → VT h B → VT h' B
  | _, _, [], _, _ => trivial
  | _, _, (k, n) :: B, hh, hB => ⟨Nat.le_trans hB.1 hh, hB.2⟩
theorem told_put {a : Pth} {B : List Rw} : toldFrom a (putT a.length B) = (toldP B).map (a ++ ·) := by
  have := told_shift a [] B
  rwa [List.append_nil] at this
theorem ctx_put {a : Pth} {B : List Rw} : ctx a (putT a.length B) = a ++ ctx [] B := by
  have := ctx_shift a [] B
  rwa [List.append_nil] at this
theorem agree_app {a b : Pth} {Y : List Rw} (h : VT a.length Y) : Agree (a ++ b) a Y := by
  cases Y with
  | nil => trivial
  | cons p Y =>
    obtain ⟨k, n⟩ := p
    show (a ++ b).take k = a.take k
    rw [List.take_append, show k - a.length = 0 from Nat.sub_eq_zero_of_le h.1]; simp
theorem agree_trans {a b c : Pth} {Y : List Rw} (h : Agree a b Y) (h' : Agree b c Y) : Agree a c Y := by
  cases Y with
  | nil => trivial
  | cons p Y => obtain ⟨k, n⟩ := p; exact Eq.trans (show a.take k = b.take k from h) h'
theorem agree_symm {a b : Pth} {Y : List Rw} (h : Agree a b Y) : Agree b a Y := by
  cases Y with
  | nil => trivial
  | cons p Y => obtain ⟨k, n⟩ := p; exact Eq.symm (show a.take k = b.take k from h)
theorem agree_head {a b : Pth} {Y Z : List Rw} (hY : Y ≠ []) (h : Agree a b (Y ++ Z)) : Agree a b Y := by
  cases Y with
  | nil => exact absurd rfl hY
  | cons p Y => obtain ⟨k, n⟩ := p; exact h
theorem VT_head {h : Nat} : ∀ {Y Z : List Rw}, VT h (Y ++ Z) → VT h Y
  | [], _, _ => trivial
  | (k, n) :: Y, Z, hv => ⟨hv.1, VT_head hv.2⟩
theorem ctx_pre {a : Pth} {B : List Rw} : ∃ b, ctx a (putT a.length B) = a ++ b := ⟨_, ctx_put⟩

/-- put before what is taken away -/
theorem told_before {A M K Z B : List Rw} (hv : VT 0 (A ++ M ++ K ++ Z)) (hB : VT 0 B) (hs : VT (ctx (ctx [] A) M).length Z) (ha : Agree (ctx (ctx (ctx [] A) M) K) (ctx (ctx [] A) M) Z) :
    toldP (A ++ putT (ctx [] A).length B ++ M ++ Z) = toldP A ++ (toldP B).map (ctx [] A ++ ·) ++ toldFrom (ctx [] A) M ++ toldFrom (ctx (ctx (ctx [] A) M) K) Z ∧ VT 0 (A ++ putT (ctx [] A).length B ++ M ++ Z) := by
  have h1 : VT ([] : Pth).length (A ++ (M ++ K ++ Z)) := by simpa using hv
  obtain ⟨hA, h2⟩ := VT_split.mp h1
  have hM : VT (ctx [] A).length M := VT_head (Z := K ++ Z) (by simpa using h2)
  generalize hca : ctx [] A = a at *
  have hput : VT a.length (putT a.length B) := by simpa using VT_put (h := a.length) hB
  obtain ⟨b, hb⟩ := ctx_pre (a := a) (B := B)
  have e1 : toldFrom (a ++ b) M = toldFrom a M := told_agree (agree_app hM)
  have key : Agree (ctx (a ++ b) M) (ctx a M) Z ∧ VT (ctx (a ++ b) M).length Z := by
    by_cases hM0 : M = []
    · subst hM0
      exact ⟨agree_app hs, VT_mono (by simp [ctx]) hs⟩
    · have : ctx (a ++ b) M = ctx a M := ctx_agree hM0 (agree_app hM)
      rw [this]
      exact ⟨by cases Z with | nil => trivial | cons p Z => obtain ⟨k, n⟩ := p; exact rfl, hs⟩
  have e2 : toldFrom (ctx (a ++ b) M) Z = toldFrom (ctx (ctx a M) K) Z := told_agree (agree_trans key.1 (agree_symm ha))
  constructor
  · show toldFrom [] _ = _
    simp only [told_app, ctx_app, hca, hb, told_put, e1, e2]
  · show VT ([] : Pth).length _
    rw [VT_split, VT_split, VT_split]
    simp only [ctx_app, hca, hb]
    exact ⟨⟨⟨hA, hput⟩, VT_mono (by simp) hM⟩, key.2⟩
/-- put behind it -/
theorem told_behind {A K M Z B : List Rw} (hv : VT 0 (A ++ K ++ M ++ Z)) (hB : VT 0 B) (hM0 : M ≠ []) (hs : VT (ctx [] A).length (M ++ Z)) (ha : Agree (ctx (ctx [] A) K) (ctx [] A) (M ++ Z)) :
    toldP (A ++ M ++ putT (ctx (ctx (ctx [] A) K) M).length B ++ Z) = toldP A ++ toldFrom (ctx (ctx [] A) K) M ++ (toldP B).map (ctx (ctx (ctx [] A) K) M ++ ·) ++ toldFrom (ctx (ctx (ctx [] A) K) M) Z ∧
      VT 0 (A ++ M ++ putT (ctx (ctx (ctx [] A) K) M).length B ++ Z) := by
  have h1 : VT ([] : Pth).length (A ++ (K ++ M ++ Z)) := by simpa using hv
  obtain ⟨hA, h2⟩ := VT_split.mp h1
  have h3 : VT (ctx [] A).length (K ++ (M ++ Z)) := by simpa using h2
  obtain ⟨hK, h4⟩ := VT_split.mp h3
  obtain ⟨hM, hZ⟩ := VT_split.mp h4
  have hMs := VT_head hs
  have e0 : ctx (ctx [] A) M = ctx (ctx (ctx [] A) K) M := ctx_agree hM0 (agree_symm (agree_head hM0 ha))
  have e1 : toldFrom (ctx [] A) M = toldFrom (ctx (ctx [] A) K) M := told_agree (agree_symm (agree_head hM0 ha))
  generalize ctx (ctx (ctx [] A) K) M = a at *
  have hput : VT a.length (putT a.length B) := by simpa using VT_put (h := a.length) hB
  obtain ⟨b, hb⟩ := ctx_pre (a := a) (B := B)
  have e2 : toldFrom (a ++ b) Z = toldFrom a Z := told_agree (agree_app hZ)
  constructor
  · show toldFrom [] _ = _
    simp only [told_app, ctx_app, e0, hb, told_put, e1, e2]
  · show VT ([] : Pth).length _
    rw [VT_split, VT_split, VT_split]
    simp only [ctx_app, e0, hb]
    exact ⟨⟨⟨hA, hMs⟩, hput⟩, VT_mono (by simp) hZ⟩

/-! a block of an outline: a row and what hangs under it -/
structure Blk (df : Nat) (n0 : Str) (K B : List Rw) : Prop where
  put : K = putT df B
  head : ∃ B', B = (0, n0) :: B' ∧ ∀ p ∈ B', 1 ≤ p.1
theorem told_starts {n0 : Str} : ∀ {c : Pth} {B : List Rw}, [n0] <+: c → (∀ p ∈ B, 1 ≤ p.1) → ∀ x ∈ toldFrom c B, [n0] <+: x
  | _, [], _, _, _, hx => nomatch hx
  | c, (k, n) :: B, hc, hB, x, hx => by
    have h1 : [n0] <+: c.take k ++ [n] := by
      obtain ⟨r, rfl⟩ := hc
      have hk : 1 ≤ k := hB (k, n) (.head _)
      obtain ⟨j, rfl⟩ : ∃ j, k = j + 1 := ⟨k - 1, by omega⟩
      exact ⟨r.take j ++ [n], by simp⟩
    rcases List.mem_cons.mp hx with rfl | hx
    · exact h1
    · exact told_starts h1 (fun p hp => hB p (.tail _ hp)) x hx
section
variable {df : Nat} {n0 : Str} {K B : List Rw} {cf ab : Pth}
theorem Blk.starts (b : Blk df n0 K B) : ∀ x ∈ toldP B, [n0] <+: x := by
  obtain ⟨B', rfl, h⟩ := b.head
  intro x hx
  rcases List.mem_cons.mp hx with rfl | hx
  · exact ⟨[], by simp⟩
  · exact told_starts (c := [n0]) ⟨[], by simp⟩ h x hx
theorem Blk.agree (b : Blk df n0 K B) (h : df ≤ cf.length) : Agree cf (cf.take df) K := by
  obtain ⟨B', rfl, _⟩ := b.head
  rw [b.put]
  show cf.take (df + 0) = (cf.take df).take (df + 0)
  rw [List.take_take, Nat.add_zero, Nat.min_self]
theorem Blk.ne (b : Blk df n0 K B) : K ≠ [] := by
  obtain ⟨B', rfl, _⟩ := b.head
  rw [b.put]; simp [putT]
theorem Blk.told (b : Blk df n0 K B) (h : df ≤ cf.length) : toldFrom cf K = (toldP B).map (cf.take df ++ ·) := by
  rw [told_agree (b.agree h), b.put]
  have := told_put (a := cf.take df) (B := B)
  rwa [show (cf.take df).length = df by simp; omega] at this
theorem Blk.ctx (b : Blk df n0 K B) (h : df ≤ cf.length) : ctx cf K = cf.take df ++ ctx [] B := by
  rw [ctx_agree b.ne (b.agree h), b.put]
  have := ctx_put (a := cf.take df) (B := B)
  rwa [show (cf.take df).length = df by simp; omega] at this
theorem Blk.first (b : Blk df n0 K B) (h : df ≤ cf.length) : ∃ r, toldFrom cf K = (cf.take df ++ [n0]) :: r := by
  rw [b.told h]
  obtain ⟨B', rfl, _⟩ := b.head
  exact ⟨_, rfl⟩
theorem Blk.pre (b : Blk df n0 K B) (h : df ≤ cf.length) : ∀ x ∈ toldFrom cf K, cf.take df ++ [n0] <+: x := by
  rw [b.told h]
  intro x hx
  obtain ⟨y, hy, rfl⟩ := List.mem_map.mp hx
  obtain ⟨r, hr⟩ := b.starts y hy
  exact ⟨r, by rw [← hr]; simp⟩
theorem Blk.hang (b : Blk df n0 K B) (h : df ≤ cf.length) : (toldFrom cf K).map (hangP (cf.take df ++ [n0]) ab) = (toldP B).map (ab ++ ·) := by
  rw [b.told h, List.map_map]
  refine List.map_congr_left fun y hy => ?_
  obtain ⟨r, hr⟩ := b.starts y hy
  show hangP (cf.take df ++ [n0]) ab (cf.take df ++ y) = ab ++ y
  unfold hangP lastN
  rw [← hr, show cf.take df ++ ([n0] ++ r) = (cf.take df ++ [n0]) ++ r by simp, List.drop_left]
  simp
theorem Blk.seam (b : Blk df n0 K B) (h : df ≤ cf.length) {Z : List Rw} (hz : ∀ p, Z.head? = some p → p.1 ≤ df) : Agree (Mine.ctx cf K) cf Z := by
  cases Z with
  | nil => trivial
  | cons p Z =>
    obtain ⟨k, n⟩ := p
    have hk : k ≤ df := hz _ rfl
    show (Mine.ctx cf K).take k = cf.take k
    rw [b.ctx h, List.take_append, List.take_take, Nat.min_eq_left hk, show k - (cf.take df).length = 0 by simp; omega]
    simp
end
theorem VT_first {h h' : Nat} {Z : List Rw} (hv : VT h Z) (hz : ∀ p, Z.head? = some p → p.1 ≤ h') : VT h' Z := by
  cases Z with
  | nil => trivial
  | cons p Z => exact ⟨hz p rfl, hv.2⟩
/-- the block's paths are those with its first as their head -/
theorem blk_filter {X K Z B : List Rw} {df : Nat} {n0 : Str} (b : Blk df n0 K B) (h : df ≤ (ctx [] X).length) (hz : ∀ p, Z.head? = some p → p.1 ≤ df) (hnd : (toldP (X ++ K ++ Z)).Nodup) :
    let pl := (ctx [] X).take df ++ [n0]
    (∀ x ∈ toldP X, ¬ pl <+: x) ∧ (∀ x ∈ toldFrom (ctx [] X) K, pl <+: x) ∧ (∀ x ∈ toldFrom (ctx (ctx [] X) K) Z, ¬ pl <+: x) := by
  intro pl
  have e : toldP (X ++ K ++ Z) = toldP X ++ toldFrom (ctx [] X) K ++ toldFrom (ctx (ctx [] X) K) Z := by
    show toldFrom [] _ = _
    simp only [told_app, ctx_app]
  rw [e] at hnd
  obtain ⟨r, hr⟩ := b.first h
  have hplY : pl ∈ toldFrom (ctx [] X) K := by rw [hr]; exact .head _
  have hpl0 : pl ≠ [] := by simp [pl]
  obtain ⟨h1, h2, h3⟩ := List.nodup_append.mp hnd
  obtain ⟨h4, h5, h6⟩ := List.nodup_append.mp h1
  have hX : ∀ x ∈ toldP X, ¬ pl <+: x := fun x hx hp => by
    rcases told_close hx hp with q | q
    · exact h6 _ q _ hplY rfl
    · exact hpl0 (List.prefix_nil.mp q)
  refine ⟨hX, b.pre h, fun x hx hp => ?_⟩
  rw [told_agree (b.seam h hz)] at hx
  rcases told_close hx hp with q | q
  · rw [← told_agree (b.seam h hz)] at q
    exact h3 _ (List.mem_append.mpr (.inr hplY)) _ q rfl
  · by_cases hX0 : X = []
    · subst hX0; exact hpl0 (List.prefix_nil.mp q)
    · obtain ⟨W, hW⟩ := told_last (c := []) hX0
      exact hX (ctx [] X) (by show _ ∈ toldFrom [] X; rw [hW]; simp) q

/-! a clash -/
theorem clash_is {dp : Nat} {n : Str} : ∀ {R : List Rw}, clash dp n R = true ↔ (dp, n) ∈ R.takeWhile (fun p => decide (dp ≤ p.1))
  | [] => by simp [clash]
  | p :: R => by
    unfold clash
    by_cases h1 : p.1 < dp
    · rw [if_pos h1, List.takeWhile_cons_of_neg (by simpa using h1)]; simp
    · rw [if_neg h1, List.takeWhile_cons_of_pos (by simpa using h1)]
      by_cases h2 : p = (dp, n)
      · rw [if_pos h2]; simp [h2]
      · rw [if_neg h2, clash_is]; simp [Ne.symm h2]
theorem zero_is {n0 : Str} : ∀ {c : Pth} {B : List Rw}, VT c.length B → ([n0] ∈ toldFrom c B ↔ (0, n0) ∈ B)
  | _, [], _ => by simp [toldFrom]
  | c, (k, n) :: B, h => by
    have hl : (c.take k ++ [n]).length = k + 1 := by have := h.1; simp; omega
    have h2 : VT (c.take k ++ [n]).length B := by rw [hl]; exact h.2
    show [n0] ∈ (c.take k ++ [n]) :: toldFrom (c.take k ++ [n]) B ↔ _
    rw [List.mem_cons, zero_is h2, List.mem_cons]
    refine or_congr ?_ Iff.rfl
    constructor
    · intro e
      have hk : k = 0 := by have := congrArg List.length e; rw [hl] at this; simp at this; omega
      subst hk
      simp at e
      rw [e]
    · intro e
      injection e with e1 e2
      subst e1 e2
      simp
theorem VT_unput {h : Nat} : ∀ {j : Nat} {B : List Rw}, VT (h + j) (putT h B) → VT j B
  | _, [], _ => trivial
  | j, (k, n) :: B, hB => ⟨Nat.le_of_add_le_add_left hB.1, VT_unput hB.2⟩
theorem put_back {h : Nat} {R : List Rw} (hR : ∀ p ∈ R, h ≤ p.1) : R = putT h (R.map fun p => (p.1 - h, p.2)) := by
  unfold putT
  rw [List.map_map]
  conv => lhs; rw [← List.map_id R]
  refine List.map_congr_left fun p hp => ?_
  have := hR p hp
  show p = (h + (p.1 - h), p.2)
  rw [show h + (p.1 - h) = p.1 by omega]
theorem clash_mem {A R : List Rw} {n0 : Str} (hv : VT 0 (A ++ R)) (hnd : (toldP (A ++ R)).Nodup) : clash (ctx [] A).length n0 R = true ↔ ctx [] A ++ [n0] ∈ toldP (A ++ R) := by
  rw [clash_is]
  have hvs : VT ([] : Pth).length (A ++ R) := hv
  obtain ⟨hA, hR⟩ := VT_split.mp hvs
  have hlast : A ≠ [] → ∃ W A', A = A' ++ [W] ∧ toldP A = toldP A' ++ [ctx [] A] := fun h0 => by
    obtain ⟨A', p, rfl⟩ : ∃ A' p, A = A' ++ [p] := ⟨A.dropLast, A.getLast h0, (List.dropLast_concat_getLast h0).symm⟩
    refine ⟨p, A', rfl, ?_⟩
    show toldFrom [] (A' ++ [p]) = _
    rw [told_app, ctx_app]
    obtain ⟨k, n⟩ := p
    rfl
  have ha0 : ctx [] A ≠ [] → A ≠ [] := fun h q => h (by rw [q]; rfl)
  have eP : toldP (A ++ R) = toldP A ++ toldFrom (ctx [] A) R := told_app _ _ _
  rw [eP] at hnd ⊢
  have eR := (List.takeWhile_append_dropWhile (p := fun p : Rw => decide ((ctx [] A).length ≤ p.1)) (l := R)).symm
  have h1 : ∀ p ∈ R.takeWhile (fun p : Rw => decide ((ctx [] A).length ≤ p.1)), (ctx [] A).length ≤ p.1 := fun p hp => by
    have := List.all_eq_true.mp (List.all_takeWhile (l := R) (p := fun p : Rw => decide ((ctx [] A).length ≤ p.1))) p hp
    simpa using this
  have h2 : ∀ p, (R.dropWhile (fun p : Rw => decide ((ctx [] A).length ≤ p.1))).head? = some p → p.1 < (ctx [] A).length := fun p hp => by
    have := List.head?_dropWhile_not (fun p : Rw => decide ((ctx [] A).length ≤ p.1)) R
    rw [hp] at this
    simpa using this
  generalize R.takeWhile (fun p : Rw => decide ((ctx [] A).length ≤ p.1)) = R1 at *
  generalize R.dropWhile (fun p : Rw => decide ((ctx [] A).length ≤ p.1)) = R2 at *
  subst eR
  generalize hca : ctx [] A = a at *
  have eB := put_back h1
  generalize hB1 : (R1.map fun p => (p.1 - a.length, p.2)) = B1 at eB
  have hVB : VT 0 B1 := VT_unput (h := a.length) (by rw [← eB]; exact VT_head hR)
  have e1 : toldFrom a R1 = (toldP B1).map (a ++ ·) := by rw [eB]; exact told_put
  have e2 : ctx a R1 = a ++ ctx [] B1 := by rw [eB]; exact ctx_put
  rw [told_app] at hnd ⊢
  obtain ⟨n1, n2, n3⟩ := List.nodup_append.mp hnd
  have notA : a ++ [n0] ∉ toldP A := fun q => by
    obtain ⟨W, A', eA, eT⟩ := hlast (fun q' => by subst q'; cases q)
    rw [eT] at q n1
    rcases List.mem_append.mp q with q | q
    · rcases told_close q (List.prefix_append a [n0]) with q' | q'
      · exact (List.nodup_append.mp n1).2.2 _ q' _ (List.mem_singleton.mpr rfl) rfl
      · have ha : a = [] := List.prefix_nil.mp q'
        have := told_ne (c := []) (A := A) (x := a) (by show a ∈ toldP A; rw [eT]; simp)
        exact this ha
    · simp at q
  have notR : a ++ [n0] ∉ toldFrom (ctx a R1) R2 := fun q => by
    cases R2 with
    | nil => cases q
    | cons p R2 =>
      obtain ⟨k, n⟩ := p
      have hk : k < a.length := h2 _ rfl
      have hag : Agree (ctx a R1) (a.take k) ((k, n) :: R2) := by
        show (ctx a R1).take k = (a.take k).take k
        rw [e2, List.take_append, List.take_take, Nat.min_self, show k - a.length = 0 by omega]; simp
      rw [told_agree hag] at q
      rcases told_close q (List.prefix_append a [n0]) with q' | q'
      · rw [← told_agree hag] at q'
        obtain ⟨W, A', eA, eT⟩ := hlast (ha0 (fun q'' => by rw [q''] at hk; simp at hk))
        exact n3 a (by rw [eT]; simp) a (List.mem_append.mpr (.inr q')) rfl
      · have := q'.length_le
        simp at this
        omega
  rw [List.mem_append, List.mem_append, e1]
  have mid : a ++ [n0] ∈ (toldP B1).map (a ++ ·) ↔ (a.length, n0) ∈ R1 := by
    rw [List.mem_map]
    constructor
    · rintro ⟨y, hy, e⟩
      have : y = [n0] := List.append_cancel_left e
      subst this
      have := (zero_is (c := []) hVB).mp hy
      rw [eB]
      exact List.mem_map.mpr ⟨(0, n0), this, by simp⟩
    · intro hm
      refine ⟨[n0], (zero_is (c := []) hVB).mpr ?_, rfl⟩
      rw [← hB1]
      exact List.mem_map.mpr ⟨_, hm, by simp⟩
  rw [mid]
  constructor
  · exact fun q => .inr (.inl q)
  · rintro (q | q | q)
    · exact absurd q notA
    · exact q
    · exact absurd q notR

/-! the edit and the renaming agree -/
theorem putP_is {P L1 L2 new old : List Pth} {ab : Pth} {g : Nat} (hl : P.filter (fun x => decide (x ∉ old)) = L1 ++ L2) (hn : new.headD [] ∉ P) (h0 : g = 0 → L1 = []) (h1 : g ≠ 0 → ∃ X, L1 = X ++ [ab]) (hnd : (L1 ++ L2).Nodup) :
    putP P g ab old new = L1 ++ new ++ L2 := by
  unfold putP
  rw [if_neg hn, hl]
  dsimp only
  have hat : (if g = 0 then 0 else (L1 ++ L2).idxOf ab + 1) = L1.length := by
    by_cases hg : g = 0
    · rw [if_pos hg, h0 hg]; rfl
    · rw [if_neg hg]
      obtain ⟨X, rfl⟩ := h1 hg
      have hX : ab ∉ X := fun q => by
        have := (List.nodup_append.mp (List.nodup_append.mp hnd).1).2.2
        exact this _ q _ (List.mem_singleton.mpr rfl) rfl
      rw [List.append_assoc, List.idxOf_append, if_neg hX]
      simp
  rw [hat, List.take_left, List.drop_left]
structure Good (T : List Rw) : Prop where
  ok : OkT T
  vt : VT 0 T
  nd : (toldP T).Nodup
theorem VT_dep : ∀ {h : Nat} {T : List Rw} {i : Nat} {p : Rw}, VT h T → T[i]? = some p → p.1 ≤ h + i
  | _, [], _, _, _, h => by simp at h
  | h, q :: T, 0, p, hv, hp => by simp at hp; rw [← hp]; exact hv.1
  | h, q :: T, i + 1, p, hv, hp => by
    have h2 := VT_dep (i := i) (p := p) hv.2 (by simpa using hp)
    have h1 : q.1 ≤ h := hv.1
    omega
theorem take_told (T : List Rw) (i : Nat) : (toldP T).take i = toldP (T.take i) := by
  have e : toldP T = toldP (T.take i) ++ toldFrom (ctx [] (T.take i)) (T.drop i) := by
    rw [← told_app, List.take_append_drop]
  by_cases h : i ≤ T.length
  · rw [e, List.take_left' (by rw [told_len, List.length_take, Nat.min_eq_left h])]
  · rw [List.take_of_length_le (l := T) (by omega), List.take_of_length_le (by rw [told_len]; omega)]
theorem drop_told {T : List Rw} {i : Nat} (h : i ≤ T.length) : (toldP T).drop i = toldFrom (ctx [] (T.take i)) (T.drop i) := by
  have e : toldP T = toldP (T.take i) ++ toldFrom (ctx [] (T.take i)) (T.drop i) := by
    rw [← told_app, List.take_append_drop]
  rw [e, List.drop_left' (by rw [told_len, List.length_take, Nat.min_eq_left h])]
theorem mid_split {α : Type} (T : List α) {i j : Nat} (h : i ≤ j) : T.take j = T.take i ++ (T.take j).drop i := by
  conv => lhs; rw [← List.take_append_drop i (T.take j)]
  rw [List.take_take, Nat.min_eq_left h]
theorem mid_ctx (T : List Rw) {i j : Nat} (h : i ≤ j) : ctx (ctx [] (T.take i)) ((T.take j).drop i) = ctx [] (T.take j) := by
  rw [← ctx_app, ← mid_split T h]
theorem mid_told (T : List Rw) {i j : Nat} (h : i ≤ j) (hj : j ≤ T.length) : ((toldP T).take j).drop i = toldFrom (ctx [] (T.take i)) ((T.take j).drop i) := by
  rw [take_told, drop_told (by rw [List.length_take]; omega), List.take_take, Nat.min_eq_left h]
theorem above_told {T : List Rw} {g : Nat} (h : g ≤ T.length) : aboveOf (toldP T) g = ctx [] (T.take g) := by
  unfold aboveOf
  by_cases hg : g = 0
  · rw [if_pos hg, hg]; rfl
  · rw [if_neg hg]
    obtain ⟨j, rfl⟩ : ∃ j, g = j + 1 := ⟨g - 1, by omega⟩
    have h0 : T.take (j + 1) ≠ [] := by intro q; have := congrArg List.length q; rw [List.length_take] at this; simp only [List.length_nil] at this; omega
    obtain ⟨X, hX⟩ := told_last (c := []) h0
    have hl : X.length = j := by
      have := congrArg List.length hX
      rw [told_len] at this
      simp at this; omega
    have e : (toldP T).take (j + 1) = X ++ [ctx [] (T.take (j + 1))] := by rw [take_told]; exact hX
    rw [Nat.add_sub_cancel, List.getD_eq_getElem?_getD]
    have : (toldP T)[j]? = some (ctx [] (T.take (j + 1))) := by
      have h1 : ((toldP T).take (j + 1))[j]? = (toldP T)[j]? := by rw [List.getElem?_take, if_pos (Nat.lt_succ_self _)]
      rw [← h1, e, List.getElem?_append_right (by omega), hl]
      simp
    rw [this]; rfl
theorem deep_told {T : List Rw} {g : Nat} (hv : VT 0 T) (h : g ≤ T.length) : (ctx [] (T.take g)).length = deepOf T g := by
  unfold deepOf
  by_cases hg : g = 0
  · rw [if_pos hg, hg]; rfl
  · rw [if_neg hg]
    have h0 : T.take g ≠ [] := by intro q; have := congrArg List.length q; rw [List.length_take] at this; simp only [List.length_nil] at this; omega
    have hv' : VT ([] : Pth).length (T.take g) := VT_head (Z := T.drop g) (by rw [List.take_append_drop]; exact hv)
    obtain ⟨p, hp, e⟩ := told_ctx_len hv' h0
    rw [e]
    have : T[g - 1]? = some p := by
      rw [List.getLast?_eq_getElem?, List.length_take, Nat.min_eq_left h, List.getElem?_take, if_pos (by omega)] at hp
      exact hp
    rw [dep_of this]

/-- one edit, told: put what B tells under C g, take away f to l -/
theorem fin_main {T : List Rw} {g f l : Nat} {B : List Rw} {n0 : Str} {old : List Pth} (hT : Good T) (hg : g ≤ T.length) (hfl : f ≤ l) (hl : l ≤ T.length) (hpos : g ≤ f ∨ l < g)
    (hB : VT 0 B) (hB1 : ∃ B', B = (0, n0) :: B' ∧ ∀ p ∈ B', 1 ≤ p.1) (hBn : ∀ p ∈ B, Nm p.2) (hBd : (toldP B).Nodup)
    (hs : VT (ctx [] (T.take f)).length (T.drop l)) (ha : Agree (ctx [] (T.take l)) (ctx [] (T.take f)) (T.drop l))
    (hold : (toldP T).filter (fun x => decide (x ∉ old)) = (toldP T).take f ++ (toldP T).drop l) (hz : T.length + B.length ≤ 6 + (l - f)) :
    toldP (finT T g (deepOf T g) f l B) = putP (toldP T) g (aboveOf (toldP T) g) old ((toldP B).map (aboveOf (toldP T) g ++ ·)) ∧ Good (finT T g (deepOf T g) f l B) := by
  have hhead : headN B = n0 := by obtain ⟨B', rfl, _⟩ := hB1; rfl
  have hBne : B ≠ [] := by obtain ⟨B', rfl, _⟩ := hB1; simp
  have hnew : ((toldP B).map (aboveOf (toldP T) g ++ ·)).headD [] = aboveOf (toldP T) g ++ [n0] := by
    obtain ⟨B', rfl, _⟩ := hB1; rfl
  have hst : ∀ y ∈ toldP B, [n0] <+: y := by
    obtain ⟨B', rfl, h⟩ := hB1
    intro x hx
    rcases List.mem_cons.mp hx with rfl | hx
    · exact ⟨[], by simp⟩
    · exact told_starts (c := [n0]) ⟨[], by simp⟩ h x hx
  rw [above_told hg] at hnew ⊢
  have hdp := deep_told hT.vt hg
  have hcl : clash (deepOf T g) n0 (T.drop g) = true ↔ ctx [] (T.take g) ++ [n0] ∈ toldP T := by
    have := clash_mem (A := T.take g) (R := T.drop g) (n0 := n0) (by rw [List.take_append_drop]; exact hT.vt) (by rw [List.take_append_drop]; exact hT.nd)
    rwa [List.take_append_drop, hdp] at this
  unfold finT
  rw [hhead]
  by_cases hc : clash (deepOf T g) n0 (T.drop g) = true
  · rw [if_pos hc]
    refine ⟨?_, hT⟩
    unfold putP
    rw [if_pos (by rw [hnew]; exact hcl.mp hc)]
  · rw [if_neg hc]
    have hnot : ctx [] (T.take g) ++ [n0] ∉ toldP T := fun q => hc (hcl.mpr q)
    have hleftnd : ((toldP T).take f ++ (toldP T).drop l).Nodup := by rw [← hold]; exact hT.nd.filter _
    -- what both ways share
    have fin : ∀ (L1 L2 : List Pth) (T' : List Rw), (toldP T).take f ++ (toldP T).drop l = L1 ++ L2 → (g = 0 → L1 = []) → (g ≠ 0 → ∃ X, L1 = X ++ [ctx [] (T.take g)]) →
        toldP T' = L1 ++ (toldP B).map (ctx [] (T.take g) ++ ·) ++ L2 → VT 0 T' → T'.length = T.length + B.length - (l - f) → (∀ p ∈ T', Nm p.2) →
        toldP T' = putP (toldP T) g (ctx [] (T.take g)) old ((toldP B).map (ctx [] (T.take g) ++ ·)) ∧ Good T' := by
      intro L1 L2 T' e1 e2 e3 e4 e5 e6 e7
      rw [e1] at hold hleftnd
      refine ⟨e4.trans (putP_is hold (by rw [hnew]; exact hnot) e2 e3 hleftnd).symm, ⟨?_, ?_, e7, ?_⟩, e5, ?_⟩
      · intro q
        have : T'.length = 0 := by rw [q]; rfl
        have : 0 < B.length := List.length_pos_iff.mpr hBne
        omega
      · have := hT.ok.len; omega
      · intro p hp
        obtain ⟨i, hi⟩ := List.getElem?_of_mem hp
        have h1 := VT_dep e5 hi
        have h2 := (List.getElem?_eq_some_iff.mp hi).1
        omega
      · rw [e4]
        have hperm : (L1 ++ (toldP B).map (ctx [] (T.take g) ++ ·) ++ L2).Perm ((L1 ++ L2) ++ (toldP B).map (ctx [] (T.take g) ++ ·)) := by
          rw [List.append_assoc, List.append_assoc]
          exact List.Perm.append_left _ List.perm_append_comm
        rw [hperm.nodup_iff, List.nodup_append]
        refine ⟨hleftnd, List.pairwise_map.mpr (hBd.imp fun h q => h (List.append_cancel_left q)), ?_⟩
        intro x hx y hy e
        subst e
        have hxP : x ∈ toldP T := by
          have : x ∈ (toldP T).filter (fun x => decide (x ∉ old)) := by rw [hold]; exact hx
          exact (List.mem_filter.mp this).1
        obtain ⟨z, hz', rfl⟩ := List.mem_map.mp hy
        obtain ⟨r, hr⟩ := hst z hz'
        rcases told_close hxP (show ctx [] (T.take g) ++ [n0] <+: ctx [] (T.take g) ++ z from ⟨r, by rw [← hr]; simp⟩) with q | q
        · exact hnot q
        · have := List.prefix_nil.mp q
          simp at this
    have hputn : ∀ p ∈ putT (deepOf T g) B, Nm p.2 := fun p hp => by
      obtain ⟨q, hq, rfl⟩ := List.mem_map.mp hp
      exact hBn q hq
    by_cases hgf : g ≤ f
    · rw [if_pos hgf]
      have eT : T = T.take g ++ (T.take f).drop g ++ (T.take l).drop f ++ T.drop l := by
        rw [← mid_split T hgf, ← mid_split T hfl, List.take_append_drop]
      have hb := told_before (A := T.take g) (M := (T.take f).drop g) (K := (T.take l).drop f) (Z := T.drop l) (B := B) (by rw [← eT]; exact hT.vt) hB (by rw [mid_ctx T hgf]; exact hs) (by rw [mid_ctx T hgf, mid_ctx T hfl]; exact ha)
      rw [mid_ctx T hgf, mid_ctx T hfl, ← take_told, ← drop_told hl, ← mid_told T hgf (by omega), hdp] at hb
      refine fin ((toldP T).take g) (((toldP T).take f).drop g ++ (toldP T).drop l) _ ?_ ?_ ?_ ?_ hb.2 ?_ ?_
      · rw [← List.append_assoc, ← mid_split (toldP T) hgf]
      · intro q; rw [q]; rfl
      · intro q
        rw [take_told]
        exact told_last (c := []) (by intro q'; have := congrArg List.length q'; rw [List.length_take] at this; simp only [List.length_nil] at this; omega)
      · rw [hb.1]; simp
      · simp [putT]; omega
      · intro p hp
        simp only [List.mem_append] at hp
        rcases hp with ((hp | hp) | hp) | hp
        · exact hT.ok.nm p (List.mem_of_mem_take hp)
        · exact hputn p hp
        · exact hT.ok.nm p (List.mem_of_mem_take (List.mem_of_mem_drop hp))
        · exact hT.ok.nm p (List.mem_of_mem_drop hp)
    · have hlg : l < g := hpos.resolve_left hgf
      rw [if_neg hgf]
      have eT : T = T.take f ++ (T.take l).drop f ++ (T.take g).drop l ++ T.drop g := by
        rw [← mid_split T hfl, ← mid_split T (Nat.le_of_lt hlg), List.take_append_drop]
      have eD : T.drop l = (T.take g).drop l ++ T.drop g := by
        conv => lhs; rw [← List.take_append_drop g T]
        rw [List.drop_append_of_le_length (by rw [List.length_take]; omega)]
      rw [eD] at hs ha
      have hb := told_behind (A := T.take f) (K := (T.take l).drop f) (M := (T.take g).drop l) (Z := T.drop g) (B := B) (by rw [← eT]; exact hT.vt) hB
        (by intro q; have := congrArg List.length q; rw [List.length_drop, List.length_take] at this; simp only [List.length_nil] at this; omega) hs (by rw [mid_ctx T hfl]; exact ha)
      rw [mid_ctx T hfl, mid_ctx T (Nat.le_of_lt hlg), ← take_told, ← drop_told hg, ← mid_told T (Nat.le_of_lt hlg) hg, hdp] at hb
      refine fin ((toldP T).take f ++ ((toldP T).take g).drop l) ((toldP T).drop g) _ ?_ ?_ ?_ ?_ hb.2 ?_ ?_
      · rw [List.append_assoc]
        congr 1
        conv => lhs; rw [← List.take_append_drop g (toldP T)]
        rw [List.drop_append_of_le_length (by rw [List.length_take, told_len]; omega)]
      · intro q; omega
      · intro q
        obtain ⟨X, hX⟩ := told_last (c := ctx [] (T.take l)) (A := (T.take g).drop l) (by intro q; have := congrArg List.length q; rw [List.length_drop, List.length_take] at this; simp only [List.length_nil] at this; omega)
        rw [mid_ctx T (Nat.le_of_lt hlg)] at hX
        exact ⟨(toldP T).take f ++ X, by rw [mid_told T (Nat.le_of_lt hlg) hg, hX]; simp⟩
      · rw [hb.1]
      · simp [putT]; omega
      · intro p hp
        simp only [List.mem_append] at hp
        rcases hp with ((hp | hp) | hp) | hp
        · exact hT.ok.nm p (List.mem_of_mem_take hp)
        · exact hT.ok.nm p (List.mem_of_mem_take (List.mem_of_mem_drop hp))
        · exact hputn p hp
        · exact hT.ok.nm p (List.mem_of_mem_drop hp)

theorem above_at {P : List Pth} {g : Nat} (h0 : g ≠ 0) (h : g ≤ P.length) : P[g - 1]? = some (aboveOf P g) := by
  unfold aboveOf
  rw [if_neg h0, List.getD_eq_getElem?_getD, List.getElem?_eq_getElem (by omega)]; rfl
theorem edit_told {T : List Rw} {d : Nat} (hT : Good T) : toldP (editT T d) = renP (toldP T) d ∧ Good (editT T d) := by
  unfold editT renP
  dsimp only
  rw [told_len]
  have hg : goalOf T.length d ≤ T.length := Nat.le_of_lt_succ (Nat.mod_lt _ (Nat.succ_pos _))
  generalize goalOf T.length d = g at *
  generalize moreOf T.length d = mo at *
  have hvg : VT ([] : Pth).length (T.take g ++ T.drop g) := by rw [List.take_append_drop]; exact hT.vt
  by_cases h3 : d % 3 = 0
  · rw [if_pos h3, if_pos h3]
    by_cases h6 : 6 ≤ T.length
    · rw [if_pos h6, if_pos h6]; exact ⟨rfl, hT⟩
    · rw [if_neg h6, if_neg h6]
      refine fin_main (n0 := nameOf mo) hT hg (Nat.le_refl _) hg (.inl (Nat.le_refl _)) ⟨Nat.le_refl _, trivial⟩ ⟨[], rfl, by simp⟩ (by simpa using nameOf_nm mo) (List.pairwise_singleton _ _) (VT_split.mp hvg).2 ?_ ?_ ?_
      · cases T.drop g with
        | nil => trivial
        | cons p Z => obtain ⟨k, n⟩ := p; exact rfl
      · rw [List.take_append_drop]
        exact List.filter_eq_self.mpr fun x _ => by simp
      · simp only [List.length_singleton]; omega
  · rw [if_neg h3, if_neg h3]
    have hpos : 0 < T.length := List.length_pos_iff.mpr hT.ok.ne
    have hfn : mo % T.length < T.length := Nat.mod_lt _ hpos
    generalize mo % T.length = f at *
    obtain ⟨pf, hpf⟩ : ∃ p, T[f]? = some p := ⟨T[f], List.getElem?_eq_getElem hfn⟩
    obtain ⟨df, n0⟩ := pf
    have hdf : dep T f = df := dep_of hpf
    have hle := endOf_le hfn
    have hfl : f < endOf T f := by unfold endOf; omega
    have hin : ∀ (j : Nat) (p : Rw), f < j → j < endOf T f → T[j]? = some p → df < p.1 := fun j p h1 h2 h3 => hdf ▸ endOf_in h1 h2 h3
    have hout : ∀ p, (T.drop (endOf T f)).head? = some p → p.1 ≤ df := fun p hp => by
      rw [List.head?_drop] at hp
      have := endOf_step hfl (Nat.le_refl _) hp
      rw [hdf] at this
      exact Nat.le_of_not_lt fun q => Nat.lt_irrefl _ (this.mp q)
    have hblk : blockT T f (endOf T f) = ((T.take (endOf T f)).drop f).map fun p => (p.1 - df, p.2) := by unfold blockT; rw [hdf]
    rw [hblk]
    generalize endOf T f = l at *
    -- the block
    have eK : (T.take l).drop f = (df, n0) :: (T.take l).drop (f + 1) := drop_cons (by rw [List.getElem?_take, if_pos hfl]; exact hpf)
    have hK' : ∀ p ∈ (T.take l).drop (f + 1), df < p.1 := fun p hp => by
      obtain ⟨i, hi⟩ := List.getElem?_of_mem hp
      rw [List.getElem?_drop, List.getElem?_take] at hi
      split at hi
      · rename_i hlt; exact hin _ _ (by omega) hlt hi
      · cases hi
    have hKd : ∀ p ∈ (T.take l).drop f, df ≤ p.1 := fun p hp => by
      rw [eK] at hp
      rcases List.mem_cons.mp hp with rfl | hp
      · exact Nat.le_refl _
      · exact Nat.le_of_lt (hK' p hp)
    have hKT : ∀ p ∈ (T.take l).drop f, p ∈ T := fun p hp => List.mem_of_mem_take (List.mem_of_mem_drop hp)
    have hKl : ((T.take l).drop f).length = l - f := by rw [List.length_drop, List.length_take]; omega
    have b : Blk df n0 ((T.take l).drop f) (((T.take l).drop f).map fun p => (p.1 - df, p.2)) := by
      refine ⟨put_back hKd, ?_⟩
      rw [eK]
      refine ⟨_, by rw [List.map_cons, Nat.sub_self], fun p hp => ?_⟩
      obtain ⟨q, hq, rfl⟩ := List.mem_map.mp hp
      have := hK' q hq
      show 1 ≤ q.1 - df
      omega
    have eT : T = T.take f ++ (T.take l).drop f ++ T.drop l := by
      rw [← mid_split T (Nat.le_of_lt hfl), List.take_append_drop]
    have hvT : VT ([] : Pth).length (T.take f ++ ((T.take l).drop f ++ T.drop l)) := by rw [← List.append_assoc, ← eT]; exact hT.vt
    obtain ⟨hvX, hvKZ⟩ := VT_split.mp hvT
    obtain ⟨hvK, hvZ⟩ := VT_split.mp hvKZ
    have hdfc : df ≤ (ctx [] (T.take f)).length := by rw [eK] at hvK; exact hvK.1
    have hVB : VT 0 (((T.take l).drop f).map fun p => (p.1 - df, p.2)) := VT_unput (h := df) (by
      rw [← b.put]
      exact VT_first hvK fun p hp => by rw [eK] at hp; simp at hp; rw [← hp]; exact Nat.le_refl _)
    have hnd := hT.nd
    have hfilt := blk_filter b hdfc hout (by rw [← eT]; exact hT.nd)
    dsimp only at hfilt
    have hY := mid_told T (Nat.le_of_lt hfl) hle
    have hPX := take_told T f
    have hPZ := drop_told (T := T) hle
    rw [← mid_ctx T (Nat.le_of_lt hfl)] at hPZ
    rw [← hPX, ← hY, ← hPZ] at hfilt
    have hpl : (toldP T).getD f [] = (ctx [] (T.take f)).take df ++ [n0] := by
      rw [List.getD_eq_getElem?_getD]
      have h1 : (((toldP T).take l).drop f)[0]? = (toldP T)[f]? := by rw [List.getElem?_drop, List.getElem?_take, if_pos (by omega), Nat.add_zero]
      obtain ⟨r, hr⟩ := b.first hdfc
      rw [← h1, hY, hr]; rfl
    rw [hpl]
    have eP : toldP T = (toldP T).take f ++ ((toldP T).take l).drop f ++ (toldP T).drop l := by
      rw [← mid_split (toldP T) (Nat.le_of_lt hfl), List.take_append_drop]
    generalize hplg : (ctx [] (T.take f)).take df ++ [n0] = pl at *
    obtain ⟨f1, f2, f3⟩ := hfilt
    have hold1 : (toldP T).filter (fun x => decide (comPre pl x = pl)) = ((toldP T).take l).drop f := by
      conv => lhs; rw [eP]
      rw [List.filter_append, List.filter_append, List.filter_eq_nil_iff.mpr (fun x hx => by simpa using fun q => f1 x hx (com_pre.mp q)), List.filter_eq_self.mpr (fun x hx => by simpa using com_pre.mpr (f2 x hx)),
        List.filter_eq_nil_iff.mpr (fun x hx => by simpa using fun q => f3 x hx (com_pre.mp q))]
      simp
    rw [hold1]
    have hnd3 : ((toldP T).take f ++ ((toldP T).take l).drop f ++ (toldP T).drop l).Nodup := by rw [← eP]; exact hnd
    obtain ⟨d1, d2, d3⟩ := List.nodup_append.mp hnd3
    obtain ⟨d4, d5, d6⟩ := List.nodup_append.mp d1
    have hold2 : (toldP T).filter (fun x => decide (x ∉ ((toldP T).take l).drop f)) = (toldP T).take f ++ (toldP T).drop l := by
      conv => lhs; arg 2; rw [eP]
      rw [List.filter_append, List.filter_append, List.filter_eq_self.mpr (fun x hx => by simpa using fun q => d6 x hx x q rfl), List.filter_eq_nil_iff.mpr (fun x hx => by simpa using hx),
        List.filter_eq_self.mpr (fun x hx => by simpa using fun q => d3 x (List.mem_append.mpr (.inr q)) x hx rfl)]
      simp
    have hhang : (((toldP T).take l).drop f).map (hangP pl (aboveOf (toldP T) g)) = (toldP (((T.take l).drop f).map fun p => (p.1 - df, p.2))).map (aboveOf (toldP T) g ++ ·) := by
      rw [hY, ← hplg]; exact b.hang hdfc
    rw [hhang]
    have hgP : g ≤ (toldP T).length := by rw [told_len]; exact hg
    have hcond : (comPre (aboveOf (toldP T) g) pl = pl) ↔ (f < g ∧ g ≤ l) := by
      rw [com_comm, com_pre]
      constructor
      · intro hp
        by_cases h0 : g = 0
        · subst h0
          have : pl = [] := List.prefix_nil.mp hp
          rw [← hplg] at this; simp at this
        · have hat := above_at h0 hgP
          refine ⟨Nat.lt_of_not_le fun q => ?_, Nat.le_of_not_lt fun q => ?_⟩
          · exact f1 _ (List.mem_of_getElem? (i := g - 1) (by rw [List.getElem?_take, if_pos (by omega)]; exact hat)) hp
          · exact f3 _ (List.mem_of_getElem? (i := g - 1 - l) (by rw [List.getElem?_drop, show l + (g - 1 - l) = g - 1 by omega]; exact hat)) hp
      · rintro ⟨h1, h2⟩
        have hat := above_at (P := toldP T) (g := g) (by omega) hgP
        exact f2 _ (List.mem_of_getElem? (i := g - 1 - f) (by rw [List.getElem?_drop, List.getElem?_take, show f + (g - 1 - f) = g - 1 by omega, if_pos (by omega)]; exact hat))
    by_cases hno : f < g ∧ g ≤ l
    · rw [if_pos hno, if_pos (hcond.mpr hno)]; exact ⟨rfl, hT⟩
    · rw [if_neg hno, if_neg (fun q => hno (hcond.mp q))]
      refine fin_main (n0 := n0) hT hg (Nat.le_of_lt hfl) hle (by omega) hVB b.head ?_ ?_ ?_ ?_ hold2 ?_
      · intro p hp
        obtain ⟨q, hq, rfl⟩ := List.mem_map.mp hp
        exact hT.ok.nm q (hKT q hq)
      · have := d5
        rw [hY, b.told hdfc] at this
        exact (List.pairwise_map.mp this).imp fun h q => h (by rw [q])
      · exact VT_first hvZ fun p hp => Nat.le_trans (hout p hp) hdfc
      · have := b.seam hdfc hout
        rwa [mid_ctx T (Nat.le_of_lt hfl)] at this
      · rw [List.length_map, hKl]; have := hT.ok.len; omega

/-! what _law_told tells of an outline -/
theorem told_fold : ∀ {T : List Rw} {ps c : List Str}, (∀ p ∈ T, Nm p.2) → ((T.map rowS).foldl toldStep (ps, c)).1 = ps ++ (toldFrom c T).map pathS
  | [], _, _, _ => by simp [toldFrom]
  | (k, n) :: T, ps, c, h => by
    have hn : Nm n := h (k, n) (.head _)
    have e : toldStep (ps, c) (rowS (k, n)) = (ps ++ [pathS (c.take k ++ [n])], c.take k ++ [n]) := by
      unfold toldStep
      dsimp only
      rw [blanks_row (p := (k, n)) hn, lstrip_row (p := (k, n)) hn, sl_to]
      rfl
    rw [List.map_cons, List.foldl_cons, e, told_fold (fun p hp => h p (.tail _ hp))]
    simp [toldFrom]
theorem told_text {T : List Rw} (hT : OkT T) : told (text T) = (toldP T).map pathS := by
  unfold told toldAll
  rw [split_text hT.ne hT.nm, told_fold hT.nm]
  simp
theorem told_names : ∀ {c : Pth} {T : List Rw}, (∀ n ∈ c, Nm n) → (∀ p ∈ T, Nm p.2) → ∀ x ∈ toldFrom c T, ∀ n ∈ x, Nm n
  | _, [], _, _, _, h => nomatch h
  | c, (k, n) :: T, hc, hT, x, hx => by
    have h1 : ∀ m ∈ c.take k ++ [n], Nm m := fun m hm => by
      rcases List.mem_append.mp hm with hm | hm
      · exact hc m (List.mem_of_mem_take hm)
      · rw [List.mem_singleton.mp hm]; exact hT (k, n) (.head _)
    rcases List.mem_cons.mp hx with rfl | hx
    · exact h1
    · exact told_names h1 (fun p hp => hT p (.tail _ hp)) x hx
theorem told_plen : ∀ {c : Pth} {T : List Rw} {b : Nat}, (∀ p ∈ T, p.1 ≤ b) → ∀ x ∈ toldFrom c T, x.length ≤ b + 1
  | _, [], _, _, _, h => nomatch h
  | c, (k, n) :: T, b, hT, x, hx => by
    rcases List.mem_cons.mp hx with rfl | hx
    · have := hT (k, n) (.head _)
      simp only [List.length_append, List.length_take, List.length_singleton]
      omega
    · exact told_plen (fun p hp => hT p (.tail _ hp)) x hx
theorem okP_told {T : List Rw} (hT : OkT T) : OkP (toldP T) := by
  refine ⟨fun q => hT.ne (List.length_eq_zero_iff.mp (by rw [← told_len [] T]; show (toldP T).length = 0; rw [q]; rfl)), by rw [told_len]; exact hT.len, fun x hx => ⟨told_ne hx, ?_, told_names (by simp) hT.nm x hx⟩⟩
  have := told_plen hT.dp x hx
  omega
/-- the outline that the law begins with -/
def T0 : List Rw := [(0, "a"), (1, "b"), (2, ".a"), (0, "b")]
theorem text0 : text T0 = "a\n b\n  .a\nb" := by decide
theorem told0 : (toldP T0).map pathS = ["/a", "/a/b", "/a/b/.a", "/b"].map Str.ofString := by decide
theorem good0 : Good T0 := ⟨⟨by decide, by decide, by unfold Nm; decide, by decide⟩, ⟨Nat.le_refl _, by decide, by decide, by decide, trivial⟩, by decide⟩

/-! lists of ints -/
def intV (l : List (Int × Tok)) : List Value := l.map fun p => Value.int p.1 p.2
theorem intV_length (l : List (Int × Tok)) : (intV l).length = l.length := by simp [intV]
theorem iv_len {l : List (Int × Tok)} {ns : List Int} (h : l.map (·.1) = ns) : (intV l).length = ns.length := by rw [← h]; simp [intV]
theorem ints_are : ∀ {vs : List Value} {ns : List Int}, IntsAre vs ns → ∃ l, vs = intV l ∧ l.map (·.1) = ns
  | _, _, .nil => ⟨[], rfl, rfl⟩
  | _, _, .cons n t h => by
    obtain ⟨l, rfl, rfl⟩ := ints_are h
    exact ⟨(n, t) :: l, rfl, rfl⟩
theorem Is.il {h : Heap} {a : Addr} {ns : List Int} (x : Is h a (.il ns)) : ∃ l n, h.get? a = some (lstO (intV l) n) ∧ l.map (·.1) = ns := by
  obtain ⟨o, e, l, n, rfl, r⟩ := x; exact ⟨l, n, e, r⟩
theorem Is.of_il {h : Heap} {a : Addr} {l : List (Int × Tok)} {n : Nat} {ns : List Int} (e : h.get? a = some (lstO (intV l) n)) (hl : l.map (·.1) = ns) : Is h a (.il ns) := ⟨_, e, l, n, rfl, hl⟩

section
variable {K : Frag} {s₀ s : Shared} {env : Env} {m cm : Str → Option Value} {N : List (Addr × Kd)} {M : Model} {prog : Program} {w : World} {A : Around} {E : Value → Shared → Prop} {Q : Value → Shared → Prop} {a b : Addr} {value slice : Expr}
theorem In.pushedI {ns : List Int} (I : In K s₀ env m cm N s) (l : List (Int × Tok)) (hl : l.map (·.1) = ns) (k : Nat) : In K s₀ env m cm ((s.heap.objs.size, .il ns) :: N) { s with heap := s.heap.push (lstO (intV l) 0), toks := k } :=
  (I.kp Keeps.push).add (Is.of_il (Heap.get?_push_size _ rfl) hl)
theorem newI {vs : List Value} {l : List (Int × Tok)} (I : In K s₀ env m cm N s) (e : vs = intV l)
    (h : ∀ a s', New s₀ N a → In K s₀ env m cm ((a, .il (l.map (·.1))) :: N) s' → Q (.ref a) s') (hz : vs.length ≤ 100000 := by simp) : wpAny M A (newList vs) Q E s := by
  subst e
  exact wpAny_newObj_type (h _ _ I.new (I.pushedI l rfl s.toks)) (by show (intV l).toArray.size ≤ sizeLine; rw [List.size_toArray, sizeLine_eq]; omega)
theorem catI {ns ms : List Int} (I : In K s₀ env m cm N s) (ha : (a, .il ns) ∈ N) (hb : (b, .il ms) ∈ N) (hz : ns.length + ms.length ≤ 100000) (h : ∀ c s', New s₀ N c → In K s₀ env m cm ((c, .il (ns ++ ms)) :: N) s' → Q (.ref c) s') : wpAny (model prog w) A (binaryOp .Add (.ref a) (.ref b)) Q E s := by
  obtain ⟨l, n, hl, e⟩ := (I.get ha).il
  obtain ⟨l', n', hl', e'⟩ := (I.get hb).il
  refine P.add_list hl hl' ?_ (by simp only [List.size_toArray, sizeLine_eq, iv_len e, iv_len e']; omega)
  have := h s.heap.objs.size _ I.new (I.pushedI (ns := ns ++ ms) (l ++ l') (by simp [e, e']) s.toks)
  simpa [intV] using this
/-- the script's first numbers -/
theorem slI {c : Addr} {l : List (Int × Tok)} {lo hi : Option Int} {p q : Value} (I : In K s₀ env m cm N s) (hc : (c, .ob (slcO p q)) ∈ N) (ha : s₀.heap.IsList a (intV l).toArray) (pl : IsPart p lo) (pu : IsPart q hi) (hb : l.length ≤ 100000)
    (h : ∀ b s', New s₀ N b → In K s₀ env m cm ((b, .il (sl (l.map (·.1)) lo hi)) :: N) s' → Q (.ref b) s')
    (hs : subscripted slice false (.ref a) (.ref c) = operate [.ref c, .ref a] (getItem (.ref a) (.ref c)) := by with_unfolding_all rfl) :
    wpAny (model prog w) A (subscriptTail value slice (.ref a) (.ref c)) Q E s := by
  have hl : s.heap.IsList a (intV l).toArray := by
    obtain ⟨o, e, r⟩ := ha
    exact ⟨o, I.old e, r⟩
  have hsl := (I.get hc).ob
  refine tail_any hl.typeIs slot_list_getitem.lookup (wpAny_getItem_list_slice hl ⟨_, hsl, rfl, rfl⟩ pl pu .none (by simp) ?_ (by simp only [List.size_toArray, sizeLine_eq, intV_length]; omega)) hs
  have := h _ _ I.new (I.pushedI (ns := sl (l.map (·.1)) lo hi) ((l.drop (lo.elim 0 (clipAt l.length))).take (hi.elim l.length (clipAt l.length) - lo.elim 0 (clipAt l.length))) (by simp [sl, List.map_take, List.map_drop]) s.toks)
  rw [slicePick_plain]
  simpa [intV, List.map_take, List.map_drop] using this
/-- two lists of the same texts are not told apart -/
theorem neL {xs : List Str} (I : In K s₀ env m cm N s) (hu : A.units < cLine) (ha : (a, .tl xs) ∈ N) (hb : (b, .tl xs) ∈ N) (h : Q (.bool false) s) : wpAny (model prog w) A (compareOp .NotEq (.ref a) (.ref b)) Q E s := by
  obtain ⟨l, n, hl, e⟩ := I.isL ha
  obtain ⟨l', n', hl', e'⟩ := I.isL hb
  have hsz : (strValues l).toArray.size = (strValues l').toArray.size := by rw [List.size_toArray, List.size_toArray, sv_len e, sv_len e']
  have R := SeqAt.RcNeAt.lists (A := A) (s := s) (e := fun _ => true) hl.isList hl'.isList hsz hu fun j h1 h2 => by
    have hj : j < xs.length := by rw [List.size_toArray, sv_len e] at h1; exact h1
    obtain ⟨t, ht⟩ := sv_get e (List.getElem?_eq_getElem hj)
    obtain ⟨t', ht'⟩ := sv_get e' (List.getElem?_eq_getElem hj)
    have e1 : (strValues l).toArray[j] = .str xs[j] t := by
      have := (List.getElem?_eq_some_iff.mp ht).2
      simpa using this
    have e2 : (strValues l').toArray[j] = .str xs[j] t' := by
      have := (List.getElem?_eq_some_iff.mp ht').2
      simpa using this
    rw [e1, e2]
    have := SeqAt.EqAt.str_str (A := A.in1) (s := s) xs[j] t xs[j] t'
    rwa [beq_self_eq_true] at this
  refine R prog w E Q ?_
  rw [show (!(List.range (strValues l).toArray.size).all fun _ => true) = false by simp]
  exact h
end

/-! ints to ints -/
def mapI (g : Int → Int) (v y : Value) : Prop := ∃ x t u, v = .int x t ∧ y = .int (g x) u
theorem vals_il {ns : List Int} {vs : List Value} (h : Vals (.il ns) vs) : ∃ l, vs = intV l ∧ l.map (·.1) = ns := by
  induction ns generalizing vs with
  | nil =>
    have : vs = [] := List.eq_nil_of_length_eq_zero h.1
    exact ⟨[], by simp [this, intV], rfl⟩
  | cons x xs ih =>
    cases vs with
    | nil => cases h.1
    | cons v vs =>
      have h1 : Vals (.il xs) vs := ⟨Nat.succ.inj h.1, fun i w hw => by simpa [Kd.At] using h.2 (i + 1) w (by simpa using hw)⟩
      obtain ⟨l, rfl, rfl⟩ := ih h1
      obtain ⟨y, t, hy, rfl⟩ := h.2 0 v rfl
      simp only [List.getElem?_cons_zero, Option.some.injEq] at hy
      exact ⟨(y, t) :: l, rfl, by simp [hy]⟩
theorem paired_il {g : Int → Int} : ∀ {l : List (Int × Tok)} {ys : List Value}, Paired (mapI g) (intV l) ys → ∃ l', ys = intV l' ∧ l'.map (·.1) = (l.map (·.1)).map g
  | [], ys, h => by
    cases h
    exact ⟨[], rfl, rfl⟩
  | (x, t) :: l, ys, h => by
    cases h with
    | cons h1 h2 =>
      obtain ⟨x', t', u, e1, rfl⟩ := h1
      cases e1
      obtain ⟨l', rfl, hl'⟩ := paired_il h2
      exact ⟨(g x, u) :: l', rfl, by simp [hl']⟩
theorem compI_is {ns : List Int} {vs ys : List Value} {g : Int → Int} {h : Heap} {D : Addr} {n : Nat} (hv : Vals (.il ns) vs) (hp : Paired (mapI g) (vs.filter fun _ => true) ys) (e : h.get? D = some (lstO ys n)) : Is h D (.il (ns.map g)) := by
  obtain ⟨l, rfl, rfl⟩ := vals_il hv
  rw [List.filter_eq_self.mpr fun _ _ => rfl] at hp
  obtain ⟨l', rfl, hl'⟩ := paired_il hp
  exact Is.of_il e hl'

/-! law -/
local macro_rules | `(tactic| walk_at "mem") => `(tactic| repeat (first | exact List.Mem.head _ | refine List.Mem.tail _ ?_))
theorem draw_nat {ns : List Int} {d : Int} (h : d ∈ ([28] ++ ns.map fun x => x % 360)) : ∃ k : Nat, d = k ∧ k < 360 := by
  rcases List.mem_append.mp h with h | h
  · exact ⟨28, List.mem_singleton.mp h, by decide⟩
  · obtain ⟨x, _, rfl⟩ := List.mem_map.mp h
    exact ⟨(x % 360).toNat, by omega, by omega⟩
theorem good_text {T : List Rw} (hT : Good T) : (text T).length ≤ 200 := by
  have := text_len (T := T) (B := 10) fun p hp => by
    rw [row_len]
    have h1 := hT.ok.dp p hp
    have h2 := (nm_facts _ (hT.ok.nm p hp)).2.2.2.2
    omega
  have h3 := hT.ok.len
  have : T.length * 10 ≤ 60 := by omega
  omega
/-- the loop's state -/
def LawAt (cN : Addr) (ds : List Int) (m : Str → Option Value) (N : List (Addr × Kd)) : Prop :=
  ∃ (T : List Rw) (a : Addr) (t : Tok), N = [(cN, .il ds), (a, .tl ((toldP T).map pathS))] ∧ Good T ∧ m "outline" = some (.str (text T) t) ∧ m "table" = some (.ref a)
set_option maxHeartbeats 4000000 in
theorem law_does {w : World} {c : Addr} {l : List (Int × Tok)} (hl : l.length ≤ 63) : Does w 18 184 [.ref c] (fun s => s.heap.IsList c (intV l).toArray) (fun _ v _ => v = .bool true) := by
  unfold Does
  k_fill
  intro A s E Q W r hc h
  refine' enter [("script", .ref c)] (upd (fun _ => none) "script" (.ref c)) (fun _ => none) W r.room ?ho ?hc ?hb ?hk ?h1 ?h2 ?h3 ?hm ?hcm ?_
  walk_at "ent"
  intro L s₁ O I
  walk_at "w"
  refine newL (l := [("/a", _), ("/a/b", _), ("/a/b/.a", _), ("/b", _)]) (by assumption) rfl ?_
  intro a _ na I1
  walk_at "w"
  refine newI (l := [(28, _)]) (by assumption) rfl ?_
  intro b _ nb I2
  refine' comp_expr (K := hd.heap_39 w.params) (s₀ := s) (k := .il []) (a := 0) (fun _ => true) (mapI fun x => x % 360) ?hclos ?hcl ?hcell ?hkind ?hnames ?hx r.deeper.hh ?_ ?hs
  case hclos => exact rfl
  case hcl => exact fun n c h => nomatch h
  case hcell => decide
  case hkind => exact rfl
  case hnames => decide
  case hx => exact rfl
  case hs => exact fun _ => rfl
  walk_at "v"
  refine slI (by assumption) (.head _) hc .none (.int _ _) (by omega) ?_
  rw [show (10 : Int) = ((10 : Nat) : Int) from rfl, sl_to]
  intro e _ ne I3
  have hns : ((l.map (·.1)).take 10).length ≤ 10 := List.length_take_le _ _
  generalize (l.map (·.1)).take 10 = ns at *
  have I4 := I3.fewer (N' := [(e, .il ns), (b, .il [28]), (a, .tl ((toldP T0).map pathS))]) (by
    intro p hp
    rw [told0] at hp
    simp only [List.mem_cons, List.not_mem_nil, or_false] at hp
    rcases hp with rfl | rfl | rfl <;> walk_at "mem")
  clear I3
  refine ⟨_, _, _, e, .il ns, rfl, I4, .head _, rfl, by show ns.length ≤ 100000; omega, by simp [Kd.isL], ⟨?_, ?_⟩, ?_⟩
  · rintro C i _ s3 m3 E' ⟨x, t, hx, rfl⟩ I5 hv
    exact wpAny_tests_nil ⟨rfl, Keeps.refl' _⟩
  · rintro C i _ s3 m3 E' ⟨x, t, hx, rfl⟩ _ I5 hv
    walk_at "v"
    refine modJ (by assumption) (by decide) ?_
    intro t9 s9 I9
    exact ⟨⟨x, t, t9, rfl, rfl⟩, I9.ks⟩
  · intro D s' vs ys n hV hP hD hf I5
    have I6 := I5.add (compI_is hV hP hD)
    clear I5 I4
    walk_at "v"
    refine catI (by assumption) (by walk_at "mem") (.head _) (by simp; omega) ?_
    intro f _ nf I7
    have hds : ∀ d : Int, d ∈ ([28] ++ ns.map fun x => x % 360) → ∃ k : Nat, d = k ∧ k < 360 := fun d hd => draw_nat hd
    generalize ([28] ++ ns.map fun x => x % 360) = ds at *
    have I8 := I7.fewer (N' := [(f, .il ds), (a, .tl ((toldP T0).map pathS))]) (by
      intro p hp
      simp only [List.mem_cons, List.not_mem_nil, or_false] at hp
      rcases hp with rfl | rfl <;> walk_at "mem")
    clear I7 I6
    refine for_lst (k := .il ds) (fun _ m _ N => LawAt f ds m N) O r.deeper.hh I8 rfl ⟨T0, a, _, rfl, good0, by rw [text0]; rfl, rfl⟩ ?_ rfl ?_ ?_
    · rintro i m cm N ⟨T, a, t, rfl, _⟩
      exact ⟨.head _, by simp [Kd.isL]⟩
    · rintro i _ m' cm' N' L' s' ⟨d, u, hd, rfl⟩ ⟨T, a, t, rfl, hT, hmo, hmt⟩ hL I9
      obtain ⟨k, rfl, hk⟩ := hds d (List.mem_of_getElem? hd)
      have hE := edit_told (d := k) hT
      have hOP := okP_told hT.ok
      walk_at "w"
      refine Does.use (edited_does hT.ok hk) (by assumption) r.deeper (by decide) trivial ?_
      rintro _ _ I10 ⟨t10, rfl⟩
      walk_at "w"
      rename_i I11
      refine Does.use (renamed_does hOP hk) (by assumption) r.deeper (by decide) (I11.get (.tail _ (.head _))) ?_
      rintro _ s12 I12 ⟨b2, rfl, hb2⟩
      rw [← hE.1] at hb2
      have I13 := I12.add hb2
      clear I12
      walk_at "w"
      refine Does.use (told_does (good_text hE.2)) (by assumption) r.deeper (by decide) trivial ?_
      rintro _ s14 I14 ⟨b3, rfl, hb3⟩
      rw [told_text hE.2.ok] at hb3
      have I15 := I14.add hb3
      clear I14
      walk_at "w"
      refine neL (by assumption) r.deeper.line (.head _) (by walk_at "mem") ?_
      walk_at "w"
      rw [if_neg (by decide)]
      walk_at "w"
      refine TurnEnd.go (N := [(f, .il ds), (b2, .tl ((toldP (editT T k)).map pathS))]) (I15.fewer fun p hp => ?_) ⟨editT T k, b2, t10, rfl, hE.2, rfl, rfl⟩
      simp only [List.cons_append, List.nil_append, List.mem_cons] at hp ⊢
      rcases hp with rfl | rfl | hp
      · simp
      · simp
      · simp [hp]
    · rintro m' cm' N' s' _ I9
      walk_at "w"
      refine wpAny_Constant_bool ?_
      exact h _ _ I9.ks rfl

end Mine
set_option maxHeartbeats 8000000 in
theorem PySem.Challenge.cw_pd0072_01_holds : PySem.Challenge.rw_pd0072_01.Holds := by
  refine Mine.hd ?_
  k_fill
  intro w s₀ s₁ mg mb G Y fa o pm cd doc dV kV ho hdd hcd hD hmg hg args vals as hpre hlay hrd hwl hlo
  have KX := kIn_of Y
  refine Ground.open G ?_
  intro T B D TE TW
  have he : fa = 184 := by
    have e := mg_of KX T.g (show nsIn (Mine.hd.heap_39 w.params) mainGlobals "law" = some (some (Value.ref 184)) by k_is)
    rw [hmg] at e
    injection e with e
    injection e
  subst he
  clear hdd hD hcd hmg ho
  wrow_args hpre hlay hrd hwl hlo
  rename_i ns _ _ _ _ _ _ _ a vs _ hL _ _ _ hI _ hlen _
  obtain ⟨l, rfl, rfl⟩ := Mine.ints_are hI
  rw [List.length_map] at hlen
  have W : Mine.Wd (Mine.hd.heap_39 w.params) s₁.heap := ⟨KX, ⟨mg, mb, T.g, T.b, T.builtins⟩, T.nolimit⟩
  have r : Mine.Rm callerA 18 := ⟨by decide, by decide, rfl⟩
  refine Mine.law_does (w := w) (c := a) (l := l) (by omega) callerA s₁ _ _ W r hL ?_
  rintro _ s' ks rfl
  refine GoodW.toG ⟨.inl ⟨_, WData.bool true, [], rfl, ?_, ?_, ?_, ?_⟩, Mine.Keeps.all ks, ?_, ?_⟩
  · exact raisesW_false (by wrow_none_raised)
  · exact .bool true
  · wrow_post
  · exact unshared_nil
  · obtain ⟨h', tk, rfl, _⟩ := ks; rfl
  · obtain ⟨h', tk, rfl, _⟩ := ks; exact hg
