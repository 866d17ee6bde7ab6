import PyProof.Rows.All
import Wide.All
import OpenK.AllK
import Wide.FinOn
import PySem.Challenge.RW_in0304_01
open PySem PySem.W PyProof.Rows
set_option Elab.async false
set_option maxRecDepth 100000
set_option linter.unusedVariables false
set_option genSizeOfSpec false

namespace Mine

/-- the goal is named while what is at hand is taken apart -/
theorem via {T : Prop} (h : ∀ G : Prop, (T → G) → G) : T := h T id

/-! ## plain data, and what a value of the heap tells of it -/
inductive D where
  | none
  | bool (b : Bool)
  | int (i : Int)
  | str (s : List Nat)
  | list (l : List D)
  | tup (l : List D)
  | typ (T : String)
  | adr (a : Nat)

noncomputable def mkS (l : List Nat) : Str := ⟨l.toArray⟩

/-- a plain list -/
noncomputable def LObj (h : Heap) (a : Addr) (vs : Array Value) : Prop := ∃ o n, h.get? a = some o ∧ o.cls = .type "list" ∧ o.dict = none ∧ o.data = .seq vs n
theorem LObj.isList {h a vs} (x : LObj h a vs) : h.IsList a vs := let ⟨o, n, e, c, _, d⟩ := x; ⟨o, e, c, n, d⟩
/-- the same, not at one of the addresses laid aside -/
structure LO (X : List Addr) (h : Heap) (a : Addr) (vs : Array Value) : Prop where
  obj : LObj h a vs
  priv : a ∉ X
theorem LO.isList {X h a vs} (x : LO X h a vs) : h.IsList a vs := x.obj.isList
structure TO (X : List Addr) (h : Heap) (a : Addr) (vs : Array Value) : Prop where
  obj : IsTup h a vs
  priv : a ∉ X

mutual
noncomputable def Rep (X : List Addr) (h : Heap) : D → Value → Prop
  | .none, v => v = .none
  | .typ T, v => v = .type T
  | .adr a, v => v = .ref a
  | .bool b, v => v = .bool b
  | .int i, v => ∃ t, v = .int i t
  | .str s, v => ∃ t, v = .str (mkS s) t
  | .list l, v => ∃ a vs, v = .ref a ∧ LO X h a vs.toArray ∧ RepL X h l vs
  | .tup l, v => ∃ a vs, v = .ref a ∧ TO X h a vs.toArray ∧ RepL X h l vs
noncomputable def RepL (X : List Addr) (h : Heap) : List D → List Value → Prop
  | [], vs => vs = []
  | d :: ds, vs => ∃ v r, vs = v :: r ∧ Rep X h d v ∧ RepL X h ds r
end

noncomputable def KeepSeq (h h' : Heap) : Prop := ∀ b o, h.get? b = some o → (∃ xs n, o.data = .seq xs n) → ∃ sl, h'.get? b = some { o with slots := sl }

theorem isList_mono {h h' : Heap} (k : KeepSeq h h') {a vs} (x : LObj h a vs) : LObj h' a vs := by
  obtain ⟨o, n, ho, hc, hi, hd⟩ := x
  obtain ⟨sl, e⟩ := k a o ho ⟨_, _, hd⟩
  exact ⟨_, n, e, hc, hi, hd⟩
theorem isTup_mono {h h' : Heap} (k : KeepSeq h h') {a vs} (x : IsTup h a vs) : IsTup h' a vs := by
  obtain ⟨o, ho, hc, n, hd⟩ := x
  obtain ⟨sl, e⟩ := k a o ho ⟨_, _, hd⟩
  exact ⟨_, e, hc, n, hd⟩

mutual
theorem Rep.mono {X} {h h' : Heap} (k : KeepSeq h h') : ∀ (d : D) (v : Value), Rep X h d v → Rep X h' d v
  | .none, _, x => by simpa [Rep] using x
  | .typ _, _, x => by simpa [Rep] using x
  | .adr _, _, x => by simpa [Rep] using x
  | .bool _, _, x => by simpa [Rep] using x
  | .int _, _, x => by simpa [Rep] using x
  | .str _, _, x => by simpa [Rep] using x
  | .list l, v, x => by
    obtain ⟨a, vs, e, hl, hr⟩ := (by simpa only [Rep] using x : ∃ a vs, v = .ref a ∧ LO X h a vs.toArray ∧ RepL X h l vs)
    simp only [Rep]
    exact ⟨a, vs, e, ⟨isList_mono k hl.obj, hl.priv⟩, RepL.mono k l vs hr⟩
  | .tup l, v, x => by
    obtain ⟨a, vs, e, hl, hr⟩ := (by simpa only [Rep] using x : ∃ a vs, v = .ref a ∧ TO X h a vs.toArray ∧ RepL X h l vs)
    simp only [Rep]
    exact ⟨a, vs, e, ⟨isTup_mono k hl.obj, hl.priv⟩, RepL.mono k l vs hr⟩
theorem RepL.mono {X} {h h' : Heap} (k : KeepSeq h h') : ∀ (l : List D) (vs : List Value), RepL X h l vs → RepL X h' l vs
  | [], _, x => by simpa [RepL] using x
  | d :: ds, vs, x => by
    obtain ⟨v, r, e, h1, h2⟩ := (by simpa only [RepL] using x : ∃ v r, vs = v :: r ∧ Rep X h d v ∧ RepL X h ds r)
    simp only [RepL]
    exact ⟨v, r, e, Rep.mono k d v h1, RepL.mono k ds r h2⟩
end

/-! ## the ground -/
structure Cfg where
  prog : Program
  w : World
  h : Heap
  mg : Str → Option Value
  mb : Str → Option Value

noncomputable abbrev Cfg.M (Γ : Cfg) : Model := model Γ.prog Γ.w
noncomputable abbrev tabO (vs : Array Value) : Obj := { cls := .none, data := .fields vs }

/-- a places table: empty, or with the one code object of the one lambda -/
noncomputable def TabAt (P line col : Nat) (q : Str) (h : Heap) : Prop :=
  ∃ vs, h.get? P = some (tabO vs) ∧ (vs = #[] ∨ ∃ c, vs = #[rawInt line, rawInt col, .ref c] ∧ h.CodeRec (.ref c) q)

structure Cfg.Ok (Γ : Cfg) : Prop where
  g : Γ.h.Ns mainGlobals Γ.mg
  b : Γ.h.Ns builtinsNs Γ.mb
  lim : Γ.h.NoLimit
  bs : ∀ x : Str, x ≠ "__name__" → Γ.mb x = bootBuiltins x
  t1 : Γ.h.get? 86 = some (tabO #[])
  t2 : Γ.h.get? 103 = some (tabO #[])
  seer : Γ.h.NoSeer
  tree : Γ.prog.given.tree = none

/-- what stands of the heap at the law's call -/
structure Base (Γ : Cfg) (X : List Addr) (h : Heap) : Prop where
  old : ∀ b o, Γ.h.get? b = some o → b ≠ 86 → b ≠ 103 → h.get? b = some o
  t1 : TabAt 86 110 73 "_law_walk.<locals>.<lambda>" h
  t2 : TabAt 103 140 33 "law.<locals>.<lambda>" h
  priv : ∀ a ∈ X, ∃ o, h.get? a = some o ∧ ∀ vs, o.data ≠ .fields vs


noncomputable def NoDict (o : Obj) : Prop := ∀ es n, o.data ≠ .dict es n
/-- from s to s': all that was stands, but tables that grow and the slots of names' dicts -/
structure Step (Γ : Cfg) (fl : List Addr) (s s' : Shared) : Prop where
  keep : ∀ b o, s.heap.get? b = some o → NoDict o → b ≠ 86 → b ≠ 103 → s'.heap.get? b = some o
  frm : ∀ b o, s.heap.get? b = some o → b ≠ 86 → b ≠ 103 → ∃ sl, s'.heap.get? b = some { o with slots := sl }
  base : ∀ {X}, Base Γ X s.heap → Base Γ X s'.heap
  gens : ∃ new, s'.gens = s.gens ++ new ∧ AllBare new
  os : s'.os = s.os
  drawn : s'.drawn = s.drawn

theorem Step.at {Γ fl s s'} (x : Step Γ fl s s') {b o} (e : s.heap.get? b = some o) (h1 : b ≠ 86) (h2 : b ≠ 103) : ∃ sl, s'.heap.get? b = some { o with slots := sl } := by
  exact x.frm b o e h1 h2

theorem AllBare.append {a b : Array GenState} (x : AllBare a) (y : AllBare b) : AllBare (a ++ b) := fun z hz => by
  rcases Array.mem_append.mp hz with h | h
  · exact x z h
  · exact y z h

theorem Step.refl {Γ fl} (s : Shared) : Step Γ fl s s :=
  ⟨fun _ _ e _ _ _ => e, fun _ o e _ _ => ⟨o.slots, e⟩, fun b => b, ⟨#[], by simp, AllBare.empty⟩, rfl, rfl⟩

theorem Step.trans {Γ fl s s' s''} (x : Step Γ fl s s') (y : Step Γ fl s' s'') : Step Γ fl s s'' where
  keep := fun b o e hb h1 h2 => y.keep b o (x.keep b o e hb h1 h2) hb h1 h2
  frm := fun b o e h1 h2 => by
    obtain ⟨sl, e1⟩ := x.frm b o e h1 h2
    obtain ⟨sl', e2⟩ := y.frm b _ e1 h1 h2
    exact ⟨sl', e2⟩
  base := fun b => y.base (x.base b)
  gens := by
    obtain ⟨n, e, hn⟩ := x.gens
    obtain ⟨n', e', hn'⟩ := y.gens
    exact ⟨n ++ n', by rw [e', e, Array.append_assoc], AllBare.append hn hn'⟩
  os := y.os.trans x.os
  drawn := y.drawn.trans x.drawn

theorem Step.wide {Γ fl s s'} (x : Step Γ [] s s') : Step Γ fl s s' where
  keep := x.keep
  frm := x.frm
  base := x.base
  gens := x.gens
  os := x.os
  drawn := x.drawn

theorem TabAt.keeps {P l c : Nat} {q : Str} {h h' : Heap} (x : TabAt P l c q h) (k : ∀ b o, h.get? b = some o → h'.get? b = some o) : TabAt P l c q h' := by
  obtain ⟨vs, e, hv⟩ := x
  refine ⟨vs, k _ _ e, hv.imp id ?_⟩
  rintro ⟨c, e, r⟩
  exact ⟨c, e, r.keeps k⟩
theorem Base.keeps {Γ X} {h h' : Heap} (x : Base Γ X h) (k : ∀ b o, h.get? b = some o → h'.get? b = some o) : Base Γ X h' :=
  ⟨fun b o e h1 h2 => k b o (x.old b o e h1 h2), x.t1.keeps k, x.t2.keeps k, fun a ha => let ⟨o, e, r⟩ := x.priv a ha; ⟨o, k _ _ e, r⟩⟩

theorem Step.of_keeps {Γ fl} {s : Shared} {h' : Heap} {tk : Nat} (k : ∀ b o, s.heap.get? b = some o → h'.get? b = some o) : Step Γ fl s { s with heap := h', toks := tk } :=
  ⟨fun b o e _ _ _ => k b o e, fun b o e _ _ => ⟨o.slots, k b o e⟩, fun b => b.keeps k, ⟨#[], by simp, AllBare.empty⟩, rfl, rfl⟩
theorem Step.tok {Γ fl} {s : Shared} {tk : Nat} : Step Γ fl s { s with toks := tk } := Step.of_keeps (fun _ _ e => e)
theorem Step.push {Γ fl} {s : Shared} {o : Obj} {tk : Nat} : Step Γ fl s { s with heap := s.heap.push o, toks := tk } := Step.of_keeps (fun _ _ e => Heap.get?_push_of_some _ e)

/-- an object that is no table of fields keeps its kind and data -/
theorem Step.look {Γ fl s s' X} (x : Step Γ fl s s') (B : Base Γ X s.heap) {b o} (e : s.heap.get? b = some o) (hd : ∀ vs, o.data ≠ .fields vs) :
    ∃ sl, s'.heap.get? b = some { o with slots := sl } := by
  refine x.at e ?_ ?_
  · rintro rfl
    obtain ⟨vs, e', _⟩ := B.t1
    rw [e] at e'; cases e'; exact hd _ rfl
  · rintro rfl
    obtain ⟨vs, e', _⟩ := B.t2
    rw [e] at e'; cases e'; exact hd _ rfl
theorem Step.keepSeq {Γ fl s s' X} (x : Step Γ fl s s') (B : Base Γ X s.heap) : KeepSeq s.heap s'.heap := fun b o e ⟨xs, n, hd⟩ =>
  x.look B e (by rw [hd]; intro vs h; cases h)
theorem Step.ns {Γ fl s s' X} (x : Step Γ fl s s') (B : Base Γ X s.heap) {L m} (n : s.heap.Ns L m) : s'.heap.Ns L m := by
  obtain ⟨o, es, ep, e, hd, r⟩ := n
  obtain ⟨sl, e'⟩ := x.look B e (by rw [hd]; intro vs h; cases h)
  exact ⟨_, es, ep, e', hd, r⟩
theorem Step.cell {Γ fl s s' X} (x : Step Γ fl s s') (B : Base Γ X s.heap) {c v} (n : s.heap.IsCell c v) : s'.heap.IsCell c v := by
  obtain ⟨o, e, hd⟩ := n
  obtain ⟨sl, e'⟩ := x.look B e (by rw [hd]; intro vs h; cases h)
  exact ⟨_, e', hd⟩
theorem Step.rep {Γ fl s s' X} (x : Step Γ fl s s') (B : Base Γ X s.heap) {d v} (r : Rep X s.heap d v) : Rep X s'.heap d v := Rep.mono (x.keepSeq B) d v r
theorem Step.repL {Γ fl s s' X} (x : Step Γ fl s s') (B : Base Γ X s.heap) {d v} (r : RepL X s.heap d v) : RepL X s'.heap d v := RepL.mono (x.keepSeq B) d v r

/-! ## the names of a frame -/
noncomputable def Holds (env : Env) (h : Heap) (m : Str → Option Value) (x : Str) (v : Value) : Prop :=
  (env.kindOf x = some .local ∧ m x = some v) ∨ ((env.kindOf x = some .cell ∨ env.kindOf x = some .free) ∧ ∃ c, env.cells.lookup x = some c ∧ h.IsCell c (some v))

structure St (Γ : Cfg) (X : List Addr) (env : Env) (ρ : List (Str × D)) (s : Shared) : Prop where
  base : Base Γ X s.heap
  glob : env.globals = mainGlobals ∧ env.builtins = builtinsNs ∧ env.scope.kind = .function
  vars : ∃ m, s.heap.Ns env.locals m ∧ ∀ x d, ρ.lookup x = some d → ∃ v, Rep X s.heap d v ∧ Holds env s.heap m x v

theorem St.step {Γ X fl env ρ s s'} (S : St Γ X env ρ s) (x : Step Γ fl s s') : St Γ X env ρ s' := by
  obtain ⟨m, hn, hv⟩ := S.vars
  refine ⟨x.base S.base, S.glob, m, x.ns S.base hn, fun y d e => ?_⟩
  obtain ⟨v, hr, hh⟩ := hv y d e
  refine ⟨v, x.rep S.base hr, hh.imp id ?_⟩
  rintro ⟨hk, c, hc, hcell⟩
  exact ⟨hk, c, hc, x.cell S.base hcell⟩
theorem St.weak {Γ X env ρ ρ' s} (S : St Γ X env ρ s) (h : ∀ x d, ρ'.lookup x = some d → ρ.lookup x = some d) : St Γ X env ρ' s := by
  obtain ⟨m, hn, hv⟩ := S.vars
  exact ⟨S.base, S.glob, m, hn, fun y d e => hv y d (h y d e)⟩

/-- how much room the stack has -/
noncomputable def Room0 (n : Nat) (A : Around) : Prop := (3 ≤ n → A.handled = none) ∧ A.depth + n ≤ 800 ∧ A.units + 40 * n ≤ 9000 ∧ (∃ l, A.frames = some l) ∧ A.guards = some []
noncomputable def FineEnv (e : Env) : Prop := e.globals = mainGlobals ∧ e.builtins = builtinsNs ∧ e.scope.isGenerator = false ∧ e.scope.isCoroutine = false
noncomputable def Room (n : Nat) (A : Around) : Prop := Room0 n A ∧ ∃ e l, A.frames = some (e :: l) ∧ (100 ≤ n → FineEnv e)
theorem Room0.le {n m A} (h : Room0 n A) (hm : m ≤ n) : Room0 m A := ⟨fun h3 => h.1 (Nat.le_trans h3 hm), by have := h.2.1; omega, by have := h.2.2.1; omega, h.2.2.2⟩
theorem Room.le {n m A} (h : Room n A) (hm : m ≤ n) : Room m A := ⟨h.1.le hm, let ⟨e, l, h1, h2⟩ := h.2; ⟨e, l, h1, fun hh => h2 (Nat.le_trans hh hm)⟩⟩
theorem Room0.in1 {n A} (h : Room0 (n + 1) A) : Room0 n A.in1 := ⟨fun h3 => h.1 (Nat.le_succ_of_le h3), by have := h.2.1; show A.depth + n ≤ 800; omega, by have := h.2.2.1; show A.units + 1 + 40 * n ≤ 9000; omega, h.2.2.2⟩
theorem Room.in1 {n A} (h : Room (n + 1) A) : Room n A.in1 := ⟨h.1.in1, let ⟨e, l, h1, h2⟩ := h.2; ⟨e, l, h1, fun hh => h2 (Nat.le_succ_of_le hh)⟩⟩
theorem Room0.deeper {n A env} (h : Room0 (n + 1) A) (f : FineEnv env) : Room n (A.deeper env) := by
  obtain ⟨l, hl⟩ := h.2.2.2.1
  refine ⟨⟨fun h3 => h.1 (Nat.le_succ_of_le h3), ?_, ?_, ⟨env :: l, by show A.frames.map _ = _; rw [hl]; rfl⟩, h.2.2.2.2⟩, env, l, by show A.frames.map _ = _; rw [hl]; rfl, fun _ => f⟩
  · have := h.2.1; simp only [Around.deeper]; omega
  · have := h.2.2.1; simp only [Around.deeper_units]; omega
theorem Room0.depth {n A} (h : Room0 n A) : A.depth < recursionLimit := by have := h.2.1; unfold recursionLimit; omega
theorem Room0.units {n A} (h : Room0 n A) : A.units < cLine := by have := h.2.2.1; unfold cLine; omega
theorem Room.hand {n A} (h : Room n A) (h3 : 3 ≤ n) : A.handled = none := h.1.1 h3

/-! ## the word: an expression yields a datum -/
noncomputable def Ev (Γ : Cfg) (n : Nat) (env : Env) (ρ : List (Str × D)) (e : Expr) (d : D) : Prop :=
  ∀ A X s Q E, Room n A → St Γ X env ρ s → (∀ v s', Rep X s'.heap d v → Step Γ [] s s' → Q v s') → wpAny Γ.M A (eval e env) Q E s
noncomputable def Tr (Γ : Cfg) (n : Nat) (env : Env) (ρ : List (Str × D)) (e : Expr) (b : Bool) : Prop :=
  ∀ A X s Q E, Room n A → St Γ X env ρ s → (∀ s', Step Γ [] s s' → Q b s') → wpAny Γ.M A (isTrue e env (eval e env)) Q E s
noncomputable def Op1 (Γ : Cfg) (n : Nat) (f : Value → Sem Value) (d₁ d : D) : Prop :=
  ∀ A X s v Q E, Room n A → Base Γ X s.heap → Rep X s.heap d₁ v → (∀ v s', Rep X s'.heap d v → Step Γ [] s s' → Q v s') → wpAny Γ.M A (f v) Q E s
noncomputable def Op2 (Γ : Cfg) (n : Nat) (f : Value → Value → Sem Value) (d₁ d₂ d : D) : Prop :=
  ∀ A X s v u Q E, Room n A → Base Γ X s.heap → Rep X s.heap d₁ v → Rep X s.heap d₂ u → (∀ v s', Rep X s'.heap d v → Step Γ [] s s' → Q v s') → wpAny Γ.M A (f v u) Q E s
noncomputable def Tr1 (Γ : Cfg) (n : Nat) (d : D) (b : Bool) : Prop :=
  ∀ A X s v Q E, Room n A → Base Γ X s.heap → Rep X s.heap d v → (∀ s', Step Γ [] s s' → Q b s') → wpAny Γ.M A (truthy v) Q E s

section
variable {Γ : Cfg} {n : Nat} {env : Env} {ρ : List (Str × D)}

theorem Ev.le {m e d} (h : Ev Γ n env ρ e d) (hm : n ≤ m) : Ev Γ m env ρ e d := fun A X s Q E r S k => h A X s Q E (r.le hm) S k
theorem Tr.le {m e d} (h : Tr Γ n env ρ e d) (hm : n ≤ m) : Tr Γ m env ρ e d := fun A X s Q E r S k => h A X s Q E (r.le hm) S k
theorem Op2.le {m f a b d} (h : Op2 Γ n f a b d) (hm : n ≤ m) : Op2 Γ m f a b d := fun A X s v u Q E r => h A X s v u Q E (r.le hm)
theorem Op1.le {m f a d} (h : Op1 Γ n f a d) (hm : n ≤ m) : Op1 Γ m f a d := fun A X s v Q E r => h A X s v Q E (r.le hm)
theorem Tr1.le {m a d} (h : Tr1 Γ n a d) (hm : n ≤ m) : Tr1 Γ m a d := fun A X s v Q E r => h A X s v Q E (r.le hm)

theorem ev_int {i k pos} : Ev Γ n env ρ (.Constant (.int i) k pos) (.int i) := fun A X s Q E _ _ k =>
  wpAny_Constant_int (k _ _ (by simp only [Rep]; exact ⟨_, rfl⟩) Step.tok)
theorem ev_str {x : Str} {k pos} : Ev Γ n env ρ (.Constant (.str x) k pos) (.str x.cps.toList) := fun A X s Q E _ _ k =>
  Calls.Constant_str (k _ _ (by simp only [Rep, mkS]; exact ⟨_, rfl⟩) Step.tok)
theorem ev_bool {b k pos} : Ev Γ n env ρ (.Constant (.bool b) k pos) (.bool b) := fun A X s Q E _ _ k =>
  wpAny_pure (k _ _ (by simp only [Rep]) (Step.refl _))
theorem ev_none {k pos} : Ev Γ n env ρ (.Constant .none k pos) .none := fun A X s Q E _ _ k =>
  wpAny_pure (k _ _ (by simp only [Rep]) (Step.refl _))

theorem ev_name {x : Str} {pos d} (h : ρ.lookup x = some d) (hd : (x == ("__debug__" : Str)) = false := by decide) (hc : (x == ("__classdict__" : Str)) = false := by decide) : Ev Γ n env ρ (.Name x pos) d := fun A X s Q E _ S k => by
  obtain ⟨m, hn, hv⟩ := S.vars
  obtain ⟨v, hr, hh⟩ := hv x d h
  refine wpAny_Name ?_ hd
  rcases hh with ⟨hk, hm⟩ | ⟨hk | hk, c, hcl, hcell⟩
  · exact wpAny_loadName_local S.glob.2.2 hk hn hm (k v s hr (Step.refl _))
  · exact wpAny_loadName_cell S.glob.2.2 hk hcl hcell (k v s hr (Step.refl _))
  · exact wpAny_loadName_free S.glob.2.2 hk hcl hcell (k v s hr (Step.refl _)) hc

theorem Base.ns {X} {h : Heap} (B : Base Γ X h) {a m} (n : Γ.h.Ns a m) (h1 : a ≠ 86) (h2 : a ≠ 103) : h.Ns a m := by
  obtain ⟨o, es, ep, e, r⟩ := n
  exact ⟨o, es, ep, B.old _ _ e h1 h2, r⟩
theorem Base.lim {X} {h : Heap} (B : Base Γ X h) (K : Γ.Ok) : h.NoLimit := by
  obtain ⟨mc, a, b⟩ := K.lim
  exact ⟨mc, B.ns a (by decide) (by decide), b⟩
theorem Base.code {X} {h : Heap} (B : Base Γ X h) {c : Nat} {q} (x : Γ.h.CodeRec (.ref c) q) (h1 : c ≠ 86) (h2 : c ≠ 103) : h.CodeRec (.ref c) q := by
  obtain ⟨c', o, vs, t, e, g, r⟩ := x
  cases e
  exact ⟨c, o, vs, t, rfl, B.old _ _ g h1 h2, r⟩

/-- a name of the text's top -/
theorem wp_glob (K : Γ.Ok) {A X s Q E} {x : Str} {pos v} (S : St Γ X env ρ s) (hk : env.kindOf x = some .globalImplicit) (hv : Γ.mg x = some v) (k : Q v s)
    (hd : (x == ("__debug__" : Str)) = false := by decide) : wpAny Γ.M A (eval (.Name x pos) env) Q E s :=
  Calls.Name_function_global S.glob.2.2 hk (Calls.loadGlobal_global (S.glob.1 ▸ S.base.ns K.g (by decide) (by decide)) hv k) hd
/-- a name of the builtins -/
theorem wp_bi (K : Γ.Ok) {A X s Q E} {x : Str} {pos v} (S : St Γ X env ρ s) (hk : env.kindOf x = some .globalImplicit) (hm : Γ.mg x = none) (hv : bootBuiltins x = some v) (k : Q v s)
    (hd : (x == ("__debug__" : Str)) = false := by decide) (hn : x ≠ "__name__" := by decide) : wpAny Γ.M A (eval (.Name x pos) env) Q E s :=
  Calls.Name_function_global S.glob.2.2 hk (Calls.loadGlobal_builtin (S.glob.1 ▸ S.base.ns K.g (by decide) (by decide)) hm (S.glob.2.1 ▸ S.base.ns K.b (by decide) (by decide)) ((K.bs x hn).trans hv) k) hd

theorem ev_glob (K : Γ.Ok) {x : Str} {pos l t} (hk : env.kindOf x = some .globalImplicit) (hv : Γ.mg x = some (.str (mkS l) t))
    (hd : (x == ("__debug__" : Str)) = false := by decide) : Ev Γ n env ρ (.Name x pos) (.str l) := fun A X s Q E _ S k =>
  wp_glob K S hk hv (k _ s (by simp only [Rep]; exact ⟨t, rfl⟩) (Step.refl _)) hd

theorem ev_bin {l op r pos a b d} (hl : Ev Γ n env ρ l a) (hr : Ev Γ n env ρ r b) (ho : Op2 Γ n (binaryOp op) a b d) : Ev Γ n env ρ (.BinOp l op r pos) d := fun A X s Q E R S k =>
  wpAny_BinOp (hl A X s _ E R S fun v s₁ r₁ x₁ => hr A X s₁ _ E R (S.step x₁) fun u s₂ r₂ x₂ => ho A X s₂ v u Q E R (x₂.base (x₁.base S.base)) (x₂.rep (x₁.base S.base) r₁) r₂
    fun w' s₃ r₃ x₃ => k w' s₃ r₃ ((x₁.trans x₂).trans x₃))
theorem ev_cmp {l op r pos a b d} (hl : Ev Γ n env ρ l a) (hr : Ev Γ n env ρ r b) (ho : Op2 Γ n (compareOp op) a b d) (hm : behindInMarks op r = false := by with_unfolding_all rfl) :
    Ev Γ n env ρ (.Compare l [op] [r] pos) d := fun A X s Q E R S k =>
  wpAny_Compare1 (hl A X s _ E R S fun v s₁ r₁ x₁ => hr A X s₁ _ E R (S.step x₁) fun u s₂ r₂ x₂ => ho A X s₂ v u Q E R (x₂.base (x₁.base S.base)) (x₂.rep (x₁.base S.base) r₁) r₂
    fun w' s₃ r₃ x₃ => k w' s₃ r₃ ((x₁.trans x₂).trans x₃)) hm
theorem tr_cmp {l op r pos a b} {c : Bool} (hl : Ev Γ n env ρ l a) (hr : Ev Γ n env ρ r b) (ho : Op2 Γ n (compareOp op) a b (.bool c)) (hm : behindInMarks op r = false := by with_unfolding_all rfl) :
    Tr Γ n env ρ (.Compare l [op] [r] pos) c := fun A X s Q E R S k =>
  wpAny_isTrue_Compare1 (hl A X s _ E R S fun v s₁ r₁ x₁ => hr A X s₁ _ E R (S.step x₁) fun u s₂ r₂ x₂ => ho A X s₂ v u _ E R (x₂.base (x₁.base S.base)) (x₂.rep (x₁.base S.base) r₁) r₂
    fun w' s₃ r₃ x₃ => by
      simp only [Rep] at r₃; subst r₃
      exact wpAny_truthy_bool (k s₃ ((x₁.trans x₂).trans x₃))) hm
theorem tr_val {e d b} (h : Ev Γ n env ρ e d) (ht : Tr1 Γ n d b) (he : ∀ whole, isTrue e env whole = (do let v ← whole; standAt e.pos; holding [v] (truthy v)) := by intro _; rfl) : Tr Γ n env ρ e b := fun A X s Q E R S k =>
  wpAny_isTrue_value (h A X s _ E R S fun v s₁ r₁ x₁ => ht A X s₁ v Q E R (x₁.base S.base) r₁ fun s₂ x₂ => k s₂ (x₁.trans x₂)) (he _)
theorem tr_and {x y pos a b} (hx : Tr Γ n env ρ x a) (hy : a = true → Tr Γ n env ρ y b) : Tr Γ n env ρ (.BoolOp .And [x, y] pos) (a && b) := fun A X s Q E R S k => by
  refine wpAny_isTrue_BoolOp (wpAny_allTrue_And_cons (hx A X s _ E R S fun s₁ x₁ => ?_))
  cases a with
  | false => exact k s₁ x₁
  | true =>
    rw [if_pos rfl]
    refine wpAny_allTrue_And_cons (hy rfl A X s₁ _ E R (S.step x₁) fun s₂ x₂ => ?_)
    cases b with
    | false => exact k s₂ (x₁.trans x₂)
    | true => exact wpAny_allTrue_And_nil (k s₂ (x₁.trans x₂))
theorem tr_or {x y pos a b} (hx : Tr Γ n env ρ x a) (hy : a = false → Tr Γ n env ρ y b) : Tr Γ n env ρ (.BoolOp .Or [x, y] pos) (a || b) := fun A X s Q E R S k => by
  refine wpAny_isTrue_BoolOp (wpAny_allTrue_Or_cons (hx A X s _ E R S fun s₁ x₁ => ?_))
  cases a with
  | true => exact k s₁ x₁
  | false =>
    rw [if_neg (by decide)]
    refine wpAny_allTrue_Or_cons (hy rfl A X s₁ _ E R (S.step x₁) fun s₂ x₂ => ?_)
    cases b with
    | true => exact k s₂ (x₁.trans x₂)
    | false => exact wpAny_allTrue_Or_nil (k s₂ (x₁.trans x₂))
theorem ev_if {t y z pos d} {b : Bool} (ht : Tr Γ n env ρ t b) (hy : b = true → Ev Γ n env ρ y d) (hz : b = false → Ev Γ n env ρ z d) : Ev Γ n env ρ (.IfExp t y z pos) d := fun A X s Q E R S k => by
  refine wpAny_IfExp (ht A X s _ E R S fun s₁ x₁ => ?_)
  cases b with
  | true => rw [if_pos rfl]; exact hy rfl A X s₁ Q E R (S.step x₁) fun v s₂ r₂ x₂ => k v s₂ r₂ (x₁.trans x₂)
  | false => rw [if_neg (by decide)]; exact hz rfl A X s₁ Q E R (S.step x₁) fun v s₂ r₂ x₂ => k v s₂ r₂ (x₁.trans x₂)
theorem ev_un {op x pos a d} (hx : Ev Γ n env ρ x a) (ho : Op1 Γ n (unaryOp op) a d) : Ev Γ n env ρ (.UnaryOp op x pos) d := fun A X s Q E R S k =>
  wpAny_UnaryOp (hx A X s _ E R S fun v s₁ r₁ x₁ => ho A X s₁ v Q E R (x₁.base S.base) r₁ fun w' s₂ r₂ x₂ => k w' s₂ r₂ (x₁.trans x₂))

end
end Mine

namespace Mine
variable {Γ : Cfg} {n : Nat} {env : Env} {ρ : List (Str × D)}

theorem rep_int {X h v i} : Rep X h (.int i) v ↔ ∃ t, v = .int i t := by simp only [Rep]
theorem rep_bool {X h v i} : Rep X h (.bool i) v ↔ v = .bool i := by simp only [Rep]
theorem rep_none {X h v} : Rep X h .none v ↔ v = .none := by simp only [Rep]
theorem rep_str {X h v i} : Rep X h (.str i) v ↔ ∃ t, v = .str (mkS i) t := by simp only [Rep]
theorem rep_list {X h v l} : Rep X h (.list l) v ↔ ∃ a vs, v = .ref a ∧ LO X h a vs.toArray ∧ RepL X h l vs := by simp only [Rep]
theorem rep_tup {X h v l} : Rep X h (.tup l) v ↔ ∃ a vs, v = .ref a ∧ TO X h a vs.toArray ∧ RepL X h l vs := by simp only [Rep]
theorem repL_nil {X h vs} : RepL X h [] vs ↔ vs = [] := by simp only [RepL]
theorem repL_cons {X h d ds vs} : RepL X h (d :: ds) vs ↔ ∃ v r, vs = v :: r ∧ Rep X h d v ∧ RepL X h ds r := by simp only [RepL]
theorem repL1 {X h d vs} (r : RepL X h [d] vs) : ∃ v, vs = [v] ∧ Rep X h d v := by
  obtain ⟨v, r, e, hv, hr⟩ := repL_cons.mp r
  rw [repL_nil] at hr
  exact ⟨v, by rw [e, hr], hv⟩
theorem repL2 {X h d d' vs} (r : RepL X h [d, d'] vs) : ∃ v u, vs = [v, u] ∧ Rep X h d v ∧ Rep X h d' u := by
  obtain ⟨v, r, e, hv, hr⟩ := repL_cons.mp r
  obtain ⟨u, e', hu⟩ := repL1 hr
  exact ⟨v, u, by rw [e, e'], hv, hu⟩
theorem RepL.len {X h} : ∀ {ds : List D} {vs : List Value}, RepL X h ds vs → vs.length = ds.length
  | [], _, x => by rw [repL_nil] at x; subst x; rfl
  | _ :: ds, vs, x => by
    rw [repL_cons] at x
    obtain ⟨v, r, rfl, _, hr⟩ := x
    simp [RepL.len hr]
theorem RepL.get {X h} : ∀ {ds : List D} {vs : List Value}, RepL X h ds vs → ∀ {i : Nat} {d : D}, ds[i]? = some d → ∃ v, vs[i]? = some v ∧ Rep X h d v
  | [], _, _, i, d, e => by simp at e
  | _ :: ds, vs, x, i, d, e => by
    rw [repL_cons] at x
    obtain ⟨v, r, rfl, hv, hr⟩ := x
    cases i with
    | zero => simp at e; subst e; exact ⟨v, by simp, hv⟩
    | succ i => obtain ⟨u, hu, hru⟩ := RepL.get hr (i := i) (d := d) (by simpa using e); exact ⟨u, by simpa using hu, hru⟩
theorem RepL.append {X h} : ∀ {ds es : List D} {vs us : List Value}, RepL X h ds vs → RepL X h es us → RepL X h (ds ++ es) (vs ++ us)
  | [], _, _, _, x, y => by rw [repL_nil] at x; subst x; simpa using y
  | _ :: ds, es, vs, us, x, y => by
    rw [repL_cons] at x
    obtain ⟨v, r, rfl, hv, hr⟩ := x
    show RepL X h (_ :: (ds ++ es)) (v :: (r ++ us))
    rw [repL_cons]
    exact ⟨v, _, rfl, hv, RepL.append hr y⟩

theorem mkS_append (a b : List Nat) : mkS a ++ mkS b = mkS (a ++ b) := by
  show (⟨(mkS a).cps ++ (mkS b).cps⟩ : Str) = _
  simp [mkS]
theorem mkS_len (a : List Nat) : (mkS a).length = a.length := by simp [mkS, Str.length]
theorem mkS_list (a : List Nat) : (mkS a).cps.toList = a := by simp [mkS]

/-! ints -/
theorem op_add {a b : Int} : Op2 Γ n (binaryOp .Add) (.int a) (.int b) (.int (a + b)) := fun A X s v u Q E _ _ hv hu k => by
  obtain ⟨t, rfl⟩ := rep_int.mp hv; obtain ⟨t', rfl⟩ := rep_int.mp hu
  exact wpAny_add_int (k _ _ (rep_int.mpr ⟨_, rfl⟩) Step.tok)
theorem op_sub {a b : Int} : Op2 Γ n (binaryOp .Sub) (.int a) (.int b) (.int (a - b)) := fun A X s v u Q E _ _ hv hu k => by
  obtain ⟨t, rfl⟩ := rep_int.mp hv; obtain ⟨t', rfl⟩ := rep_int.mp hu
  exact P.sub_int (k _ _ (rep_int.mpr ⟨_, rfl⟩) Step.tok)
theorem op_subb {a b : Bool} : Op2 Γ n (binaryOp .Sub) (.bool a) (.bool b) (.int (b2i a - b2i b)) := fun A X s v u Q E _ _ hv hu k => by
  rw [rep_bool] at hv hu; subst hv hu
  exact sub_bool (k _ _ (rep_int.mpr ⟨_, rfl⟩) Step.tok)
theorem op_mul {a b : Int} (h : -(2 ^ 64) < a ∧ a < 2 ^ 64) : Op2 Γ n (binaryOp .Mult) (.int a) (.int b) (.int (a * b)) := fun A X s v u Q E _ _ hv hu k => by
  obtain ⟨t, rfl⟩ := rep_int.mp hv; obtain ⟨t', rfl⟩ := rep_int.mp hu
  exact P.mul_int (k _ _ (rep_int.mpr ⟨_, rfl⟩) Step.tok) (IntMulOk.of_left (intBits_le_64 h.1 h.2))
theorem op_mod {a b : Int} (h : b ≠ 0) : Op2 Γ n (binaryOp .Mod) (.int a) (.int b) (.int (a.fmod b)) := fun A X s v u Q E _ _ hv hu k => by
  obtain ⟨t, rfl⟩ := rep_int.mp hv; obtain ⟨t', rfl⟩ := rep_int.mp hu
  exact mod_int' h (k _ _ (rep_int.mpr ⟨_, rfl⟩) Step.tok)
theorem Base.seer {X} {h : Heap} (B : Base Γ X h) (K : Γ.Ok) : h.NoSeer := by
  obtain ⟨⟨mc, a1, a2, a3⟩, ⟨mm, b1, b2⟩, ⟨mb, c1, c2⟩, mg, bm, ob, d1, d2, d3, d4, d5⟩ := K.seer
  refine ⟨⟨mc, B.ns a1 (by decide) (by decide), a2, a3⟩, ⟨mm, B.ns b1 (by decide) (by decide), b2⟩, ⟨mb, B.ns c1 (by decide) (by decide), c2⟩, mg, bm, ob, B.ns d1 (by decide) (by decide), d2, B.old _ _ d3 ?_ ?_, d4, d5⟩
  · rintro rfl; rw [K.t1] at d3; cases d3; cases d4
  · rintro rfl; rw [K.t2] at d3; cases d3; cases d4
theorem op_div (K : Γ.Ok) {a b : Int} (h : b ≠ 0) (hn : 100 ≤ n) : Op2 Γ n (binaryOp .FloorDiv) (.int a) (.int b) (.int (a.fdiv b)) := fun A X s v u Q E R B hv hu k => by
  obtain ⟨t, rfl⟩ := rep_int.mp hv; obtain ⟨t', rfl⟩ := rep_int.mp hu
  obtain ⟨e, l, hf, fe⟩ := R.2
  have fe := fe hn
  refine floordiv_int h (k _ _ (rep_int.mpr ⟨_, rfl⟩) Step.tok) (Or.inr (PylongRoom.of (B.lim K) ?_ (SeerAt.of (B.seer K) K.tree hf fe.2.2.1 fe.2.2.2 fe.2.1 fe.1)))
  have := R.1.2.1; unfold Builtin.pylongFrames recursionLimit; omega
theorem op_eq {a b : Int} : Op2 Γ n (compareOp .Eq) (.int a) (.int b) (.bool (a == b)) := fun A X s v u Q E _ _ hv hu k => by
  obtain ⟨t, rfl⟩ := rep_int.mp hv; obtain ⟨t', rfl⟩ := rep_int.mp hu
  exact P.eq_int (k _ _ (rep_bool.mpr rfl) (Step.refl _))
theorem op_gt {a b : Int} : Op2 Γ n (compareOp .Gt) (.int a) (.int b) (.bool (decide (a > b))) := fun A X s v u Q E _ _ hv hu k => by
  obtain ⟨t, rfl⟩ := rep_int.mp hv; obtain ⟨t', rfl⟩ := rep_int.mp hu
  exact P.gt_int (k _ _ (rep_bool.mpr rfl) (Step.refl _))
theorem op_neg {a : Int} : Op1 Γ n (unaryOp .USub) (.int a) (.int (-a)) := fun A X s v Q E _ _ hv k => by
  obtain ⟨t, rfl⟩ := rep_int.mp hv
  exact P.neg_int (k _ _ (rep_int.mpr ⟨_, rfl⟩) Step.tok)
theorem tr_int {a : Int} : Tr1 Γ n (.int a) (a != 0) := fun A X s v Q E _ _ hv k => by
  obtain ⟨t, rfl⟩ := rep_int.mp hv
  exact P.truthy_int (k _ (Step.refl _))
theorem tr_bool {b : Bool} : Tr1 Γ n (.bool b) b := fun A X s v Q E _ _ hv k => by
  rw [rep_bool] at hv; subst hv
  exact wpAny_truthy_bool (k _ (Step.refl _))

/-! texts -/
theorem op_adds {a b : List Nat} (h : a.length + b.length ≤ 2 ^ 24) : Op2 Γ n (binaryOp .Add) (.str a) (.str b) (.str (a ++ b)) := fun A X s v u Q E _ _ hv hu k => by
  obtain ⟨t, rfl⟩ := rep_str.mp hv; obtain ⟨t', rfl⟩ := rep_str.mp hu
  exact SB.add (fun t' j => k _ _ (rep_str.mpr ⟨t', by rw [mkS_append]⟩) Step.tok) (by rw [mkS_len, mkS_len]; exact h)
theorem op_eqs {a b : List Nat} : Op2 Γ n (compareOp .Eq) (.str a) (.str b) (.bool (a == b)) := fun A X s v u Q E _ _ hv hu k => by
  obtain ⟨t, rfl⟩ := rep_str.mp hv; obtain ⟨t', rfl⟩ := rep_str.mp hu
  exact P.eq_str (k _ _ (rep_bool.mpr (by rw [mkS_list, mkS_list])) (Step.refl _))
theorem op_nes {a b : List Nat} : Op2 Γ n (compareOp .NotEq) (.str a) (.str b) (.bool (a != b)) := fun A X s v u Q E _ _ hv hu k => by
  obtain ⟨t, rfl⟩ := rep_str.mp hv; obtain ⟨t', rfl⟩ := rep_str.mp hu
  exact P.ne_str (k _ _ (rep_bool.mpr (by rw [mkS_list, mkS_list])) (Step.refl _))
theorem op_lts {a b : List Nat} : Op2 Γ n (compareOp .Lt) (.str a) (.str b) (.bool (decide (a < b))) := fun A X s v u Q E _ _ hv hu k => by
  obtain ⟨t, rfl⟩ := rep_str.mp hv; obtain ⟨t', rfl⟩ := rep_str.mp hu
  refine P.lt_str (k _ _ (rep_bool.mpr ?_) (Step.refl _))
  rw [mkS_list, mkS_list]
theorem op_gts {a b : List Nat} : Op2 Γ n (compareOp .Gt) (.str a) (.str b) (.bool (decide (b < a))) := fun A X s v u Q E _ _ hv hu k => by
  obtain ⟨t, rfl⟩ := rep_str.mp hv; obtain ⟨t', rfl⟩ := rep_str.mp hu
  refine P.gt_str (k _ _ (rep_bool.mpr ?_) (Step.refl _))
  rw [mkS_list, mkS_list]
theorem tr_str {a : List Nat} (h : a.length < 2 ^ 62) : Tr1 Γ n (.str a) (!a.isEmpty) := fun A X s v Q E _ _ hv k => by
  obtain ⟨t, rfl⟩ := rep_str.mp hv
  have e : (((mkS a).length : Int) != 0) = !a.isEmpty := by
    rw [mkS_len]; cases a with
    | nil => rfl
    | cons x r => simp [List.isEmpty]; omega
  refine P.truthy_str (by rw [mkS_len]; omega) ?_
  rw [e]; exact k _ Step.tok
theorem foldl_rep : ∀ (m : Nat) (c : Array Nat) (acc : Array Nat), ((List.replicate m c).foldl (· ++ ·) acc).toList = acc.toList ++ (List.replicate m c.toList).flatten
  | 0, c, acc => by simp
  | m + 1, c, acc => by rw [List.replicate_succ, List.foldl_cons, foldl_rep m c]; simp [List.replicate_succ]
theorem mul_slash (m : Nat) : Txt.mul (mkS [47]) (m : Int) = mkS (List.replicate m 47) := by
  unfold Txt.mul
  split
  · have : m = 0 := by omega
    subst this; rfl
  · split
    · rename_i h1 h2
      have : m = 1 := by
        have h3 : (m : Int) = 1 := by simpa [mkS, Str.length] using h2
        omega
      subst this; rfl
    · apply Str.ext'
      simp only [mkS]
      apply Array.ext'
      rw [foldl_rep]
      simp
theorem op_slash {m : Nat} (h : m ≤ 1000000) : Op2 Γ n (binaryOp .Mult) (.str [47]) (.int m) (.str (List.replicate m 47)) := fun A X s v u Q E _ _ hv hu k => by
  obtain ⟨t, rfl⟩ := rep_str.mp hv; obtain ⟨t', rfl⟩ := rep_int.mp hu
  refine SB.mul ⟨?_, ?_, ?_⟩ (fun t' j => k _ _ (rep_str.mpr ⟨t', by rw [mul_slash]⟩) Step.tok)
  · have h1 : ¬ ((m : Int) < -(2 ^ 63 : Int)) := by omega
    have h2 : ¬ ((m : Int) ≥ 2 ^ 63) := by omega
    rw [decide_eq_false h1, decide_eq_false h2]; rfl
  · intro h1 _
    rw [mkS_len]
    have h3 : (1 : Int) ≤ (2 ^ 63 - 1) / (m : Int) := by
      rw [Int.le_ediv_iff_mul_le (by omega)]; omega
    have : (([47] : List Nat).length : Int) = 1 := rfl
    omega
  · intro h1 _
    rw [mkS_len]
    unfold Builtin.Str.tooLong
    have : ([47] : List Nat).length * (m : Int).toNat = m := by simp
    rw [this]
    apply decide_eq_false
    unfold sizeLine; omega

/-! pieces of display -/
theorem spl_nil {A s E} {pos : Pos} {Q : List Value → Shared → Prop} (h : Q [] s) : wpAny Γ.M A (spliced (backTo pos (starEach [] env))) Q E s := spliced_none h

/-- a list of expressions yields a list of data -/
inductive Evs (Γ : Cfg) (n : Nat) (env : Env) (ρ : List (Str × D)) : List Expr → List D → Prop
  | nil : Evs Γ n env ρ [] []
  | cons {e d es ds} : Ev Γ n env ρ e d → (starEach (e :: es) env = (false, eval e env) :: starEach es env) → Evs Γ n env ρ es ds → Evs Γ n env ρ (e :: es) (d :: ds)

theorem Evs.run {es ds} (h : Evs Γ n env ρ es ds) : ∀ {A X s E pos} {Q : List Value → Shared → Prop}, Room n A → St Γ X env ρ s →
    (∀ vs s', RepL X s'.heap ds vs → Step Γ [] s s' → Q vs s') → wpAny Γ.M A (spliced (backTo pos (starEach es env))) Q E s := by
  induction h with
  | nil => intro A X s E pos Q _ _ k; exact spliced_none (k [] s (repL_nil.mpr rfl) (Step.refl _))
  | cons he hs _ ih =>
    intro A X s E pos Q R S k
    refine spliced_more (he A X s _ E R S fun v s₁ r₁ x₁ => ih R (S.step x₁) fun vs s₂ r₂ x₂ => k _ _ ?_ (x₁.trans x₂)) hs
    exact repL_cons.mpr ⟨v, vs, rfl, x₂.rep (x₁.base S.base) r₁, r₂⟩
theorem Evs.len {es ds} (h : Evs Γ n env ρ es ds) : es.length = ds.length := by
  induction h with
  | nil => rfl
  | cons _ _ _ ih => simp [ih]

theorem newSeq {s : Shared} {cls : String} {vs : List Value} : (s.heap.push { cls := .type cls, data := .seq vs.toArray }).get? s.heap.objs.size = some { cls := .type cls, data := .seq vs.toArray } := Heap.get?_push_size _ rfl
theorem Base.new {Γ X h} (B : Base Γ X h) : h.objs.size ∉ X := fun hm => by
  obtain ⟨o, e, _⟩ := B.priv _ hm
  exact Nat.lt_irrefl _ (Heap.lt_size e)
theorem rep_newList {Γ X} {s : Shared} {ds vs} (B : Base Γ X s.heap) (h : RepL X s.heap ds vs) : Rep X (s.heap.push { cls := .type "list", data := .seq vs.toArray }) (.list ds) (.ref s.heap.objs.size) :=
  rep_list.mpr ⟨_, vs, rfl, ⟨⟨_, _, newSeq, rfl, rfl, rfl⟩, B.new⟩, (Step.push (Γ := Γ) (fl := []) (tk := s.toks) : Step Γ [] s { s with heap := s.heap.push { cls := .type "list", data := .seq vs.toArray }, toks := s.toks }).repL B h⟩
theorem rep_newTup {Γ X} {s : Shared} {ds vs} (B : Base Γ X s.heap) (h : RepL X s.heap ds vs) : Rep X (s.heap.push { cls := .type "tuple", data := .seq vs.toArray }) (.tup ds) (.ref s.heap.objs.size) :=
  rep_tup.mpr ⟨_, vs, rfl, ⟨⟨_, newSeq, rfl, _, rfl⟩, B.new⟩, (Step.push (Γ := Γ) (fl := []) (tk := s.toks) : Step Γ [] s { s with heap := s.heap.push { cls := .type "tuple", data := .seq vs.toArray }, toks := s.toks }).repL B h⟩
theorem ev_list {es ds pos} (h : Evs Γ n env ρ es ds) (hs : ds.length ≤ 1000 := by exact Nat.le_of_ble_eq_true rfl) : Ev Γ n env ρ (.List es pos) (.list ds) := fun A X s Q E R S k =>
  wpAny_List (h.run R S fun vs s₁ r₁ x₁ => ⟨by rw [r₁.len]; unfold sizeLine; omega, k _ _ (rep_newList (x₁.base S.base) r₁) (x₁.trans (Step.push (tk := s₁.toks)))⟩)
theorem ev_tup {es ds k pos} (h : Evs Γ n env ρ es ds) (hs : ds.length ≤ 1000 := by exact Nat.le_of_ble_eq_true rfl) : Ev Γ n env ρ (.Tuple es k pos) (.tup ds) := fun A X s Q E R S k =>
  wpAny_Tuple (h.run R S fun vs s₁ r₁ x₁ => ⟨by rw [r₁.len]; unfold sizeLine; omega, k _ _ (rep_newTup (x₁.base S.base) r₁) (x₁.trans (Step.push (tk := s₁.toks)))⟩)

end Mine

namespace Mine
variable {Γ : Cfg} {n : Nat} {env : Env} {ρ : List (Str × D)}

theorem arr_get {vs : List Value} {i : Nat} {v : Value} (h : vs[i]? = some v) : vs.toArray[i]? = some v := by simpa using h

/-! ## items -/
theorem ev_item {value slice pos l d} {k : Int} (hv : Ev Γ n env ρ value (.list l)) (hi : Ev Γ n env ρ slice (.int k)) (h0 : 0 ≤ k) (hb : k < 2 ^ 62) (hx : l[k.toNat]? = some d)
    (hs : ∀ o i, subscripted slice false o i = operate [o, i] (getItem o i) := by intro _ _; with_unfolding_all rfl) : Ev Γ n env ρ (.Subscript value slice pos) d := fun A X s Q E R S kk => by
  refine Subscript_ (hv A X s _ E R S fun v s₁ r₁ x₁ => hi A X s₁ _ E R (S.step x₁) fun i s₂ r₂ x₂ => ?_)
  obtain ⟨a, vs, rfl, hL, hr⟩ := rep_list.mp (x₂.rep (x₁.base S.base) r₁)
  have hl := hL.isList
  obtain ⟨t, rfl⟩ := rep_int.mp r₂
  obtain ⟨u, hu, hru⟩ := hr.get hx
  exact tail_any hl.typeIs slot_list_getitem.lookup (wpAny_getItem_list hl h0 (by omega) (arr_get hu) (kk u s₂ hru (x₁.trans x₂))) (hs _ _)
theorem ev_item_neg {value slice pos l d} {k : Int} (hv : Ev Γ n env ρ value (.list l)) (hi : Ev Γ n env ρ slice (.int k)) (h0 : k < 0) (hb : -(l.length : Int) ≤ k) (hb2 : -(2 ^ 63) ≤ k) (hx : l[(k + l.length).toNat]? = some d)
    (hs : ∀ o i, subscripted slice false o i = operate [o, i] (getItem o i) := by intro _ _; with_unfolding_all rfl) : Ev Γ n env ρ (.Subscript value slice pos) d := fun A X s Q E R S kk => by
  refine Subscript_ (hv A X s _ E R S fun v s₁ r₁ x₁ => hi A X s₁ _ E R (S.step x₁) fun i s₂ r₂ x₂ => ?_)
  obtain ⟨a, vs, rfl, hL, hr⟩ := rep_list.mp (x₂.rep (x₁.base S.base) r₁)
  have hl := hL.isList
  obtain ⟨t, rfl⟩ := rep_int.mp r₂
  obtain ⟨u, hu, hru⟩ := hr.get hx
  have hz : vs.toArray.size = l.length := by simpa using hr.len
  exact tail_any hl.typeIs slot_list_getitem.lookup (wpAny_getItem_list_neg hl h0 (by rw [hz]; exact hb) hb2 (by rw [hz]; exact arr_get hu) (kk u s₂ hru (x₁.trans x₂))) (hs _ _)
theorem ev_item_tup {value slice pos l d} {k : Int} (hv : Ev Γ n env ρ value (.tup l)) (hi : Ev Γ n env ρ slice (.int k)) (h0 : 0 ≤ k) (hb : k < 2 ^ 62) (hx : l[k.toNat]? = some d)
    (hs : ∀ o i, subscripted slice false o i = operate [o, i] (getItem o i) := by intro _ _; with_unfolding_all rfl) : Ev Γ n env ρ (.Subscript value slice pos) d := fun A X s Q E R S kk => by
  refine Subscript_ (hv A X s _ E R S fun v s₁ r₁ x₁ => hi A X s₁ _ E R (S.step x₁) fun i s₂ r₂ x₂ => ?_)
  obtain ⟨a, vs, rfl, ⟨hl, _⟩, hr⟩ := rep_tup.mp (x₂.rep (x₁.base S.base) r₁)
  obtain ⟨t, rfl⟩ := rep_int.mp r₂
  obtain ⟨u, hu, hru⟩ := hr.get hx
  have hlt : k.toNat < vs.toArray.size := by
    have := (List.getElem?_eq_some_iff.mp hu).1
    simpa using this
  refine tail_any hl.typeIs slot_tuple_getitem.lookup (getItem_tuple hl (by omega) (by omega) (j := k.toNat) ?_ (arr_get hu) (kk u s₂ hru (x₁.trans x₂))) (hs _ _)
  exact seqIndex_of h0 (by omega)

/-! ## slices of lists -/
theorem RepL.drop {X h} : ∀ {ds : List D} {vs : List Value} (k : Nat), RepL X h ds vs → RepL X h (ds.drop k) (vs.drop k)
  | _, _, 0, x => by simpa using x
  | [], _, k + 1, x => by rw [repL_nil] at x; subst x; simpa using repL_nil.mpr rfl
  | _ :: ds, vs, k + 1, x => by
    rw [repL_cons] at x
    obtain ⟨v, r, rfl, hv, hr⟩ := x
    simpa using RepL.drop k hr
theorem RepL.take {X h} : ∀ {ds : List D} {vs : List Value} (k : Nat), RepL X h ds vs → RepL X h (ds.take k) (vs.take k)
  | _, _, 0, x => by simpa using repL_nil.mpr rfl
  | [], _, k + 1, x => by rw [repL_nil] at x; subst x; simpa using repL_nil.mpr rfl
  | _ :: ds, vs, k + 1, x => by
    rw [repL_cons] at x
    obtain ⟨v, r, rfl, hv, hr⟩ := x
    rw [List.take_succ_cons, List.take_succ_cons, repL_cons]
    exact ⟨v, _, rfl, hv, RepL.take k hr⟩
theorem RepL.reverse {X h} : ∀ {ds : List D} {vs : List Value}, RepL X h ds vs → RepL X h ds.reverse vs.reverse
  | [], _, x => by rw [repL_nil] at x; subst x; simpa using repL_nil.mpr rfl
  | _ :: ds, vs, x => by
    rw [repL_cons] at x
    obtain ⟨v, r, rfl, hv, hr⟩ := x
    rw [List.reverse_cons, List.reverse_cons]
    exact RepL.append (RepL.reverse hr) (repL_cons.mpr ⟨v, [], rfl, hv, repL_nil.mpr rfl⟩)

theorem clipN (a n : Nat) : max 0 (min (if ((a : Nat) : Int) < 0 then (a : Int) + (n : Int) else (a : Int)) (n : Int)) = ((min a n : Nat) : Int) := by
  rw [if_neg (Int.not_lt.mpr (Int.natCast_nonneg a))]; omega
theorem turn_lt {n j : Nat} (h : j < n) : n + 1 - (j + 1) < n + 1 - j := by omega
theorem turn_end {n j : Nat} (h : j ≤ n) (h' : ¬ j < n) : j = n := Nat.le_antisymm h (Nat.le_of_not_lt h')
theorem size_fit {ys : Array Value} {l : List D} (h : ys.toList.length = l.length) (hl : l.length ≤ 1000) : ys.size ≤ sizeLine := by
  have e : ys.size = l.length := by simpa using h
  rw [e]; exact Nat.le_trans hl (by decide)
theorem nn (i : Nat) : (0 : Int) ≤ (i : Nat) := Int.natCast_nonneg i
theorem lt62 {i : Nat} (h : i ≤ 1000) : ((i : Nat) : Int) < 2 ^ 62 := Int.ofNat_lt.mpr (Nat.lt_of_le_of_lt h (by decide))
theorem lt62b {i : Nat} (h : i < 8) : ((i : Nat) : Int) < 2 ^ 62 := lt62 (Nat.le_of_lt (Nat.lt_trans h (by decide)))
theorem lt62c {i : Nat} (h : i ≤ 8) : ((i : Nat) : Int) < 2 ^ 62 := lt62 (Nat.le_trans h (by decide))
theorem pick_upto (vs : List Value) (k : Nat) : slicePick vs.toArray none (some (k : Int)) none = (vs.take k).toArray := by
  have e : sliceBounds none (some (k : Int)) none vs.toArray.size = (((0 : Nat) : Int), ((min k vs.toArray.size : Nat) : Int), 1) := by
    simp only [sliceBounds, Option.getD_none, show (1 : Int) > 0 by decide, if_true, clipN]
    rfl
  rw [kmk_pick_nat _ e]
  rw [List.drop_zero, Nat.sub_zero, List.size_toArray, kmk_take_min]
theorem pick_from (vs : List Value) (k : Nat) : slicePick vs.toArray (some (k : Int)) none none = (vs.drop k).toArray := by
  have e : sliceBounds (some (k : Int)) none none vs.toArray.size = (((min k vs.toArray.size : Nat) : Int), ((vs.toArray.size : Nat) : Int), 1) := by
    simp only [sliceBounds, Option.getD_none, show (1 : Int) > 0 by decide, if_true, clipN]
  rw [kmk_pick_nat _ e]
  rw [List.size_toArray, kmk_drop_min, List.take_of_length_le]
  rw [List.length_drop]; omega

theorem base_push {X h o} (B : Base Γ X h) : Base Γ X (h.push o) := B.keeps fun _ _ e => Heap.get?_push_of_some _ e
theorem step_push2 {fl} {s : Shared} {o o' : Obj} : Step Γ fl s { s with heap := (s.heap.push o).push o' } :=
  Step.of_keeps (tk := s.toks) fun _ _ e => Heap.get?_push_of_some _ (Heap.get?_push_of_some _ e)
theorem rep_push2 {X} {s : Shared} {o : Obj} {ds vs} (B : Base Γ X s.heap) (h : RepL X s.heap ds vs) :
    Rep X ((s.heap.push o).push { cls := .type "list", data := .seq vs.toArray }) (.list ds) (.ref (s.heap.push o).objs.size) :=
  rep_newList (Γ := Γ) (s := { s with heap := s.heap.push o }) (base_push B) ((Step.push (Γ := Γ) (fl := []) (tk := s.toks) : Step Γ [] s { s with heap := s.heap.push o, toks := s.toks }).repL B h)

theorem ev_upto {value u p pos l} {k : Nat} (hv : Ev Γ n env ρ value (.list l)) (hu : Ev Γ n env ρ u (.int k)) (hz : l.length ≤ 1000) :
    Ev Γ n env ρ (.Subscript value (.Slice none (some u) none p) pos) (.list (l.take k)) := fun A X s Q E R S kk => by
  refine Subscript_ (hv A X s _ E R S fun v s₁ r₁ x₁ => wpAny_Slice (wpAny_evalPart_none (hu A X s₁ _ E R (S.step x₁) fun i s₂ r₂ x₂ => wpAny_evalPart_none ?_)))
  have B₂ := x₂.base (x₁.base S.base)
  obtain ⟨a, vs, rfl, hL, hr⟩ := rep_list.mp (x₂.rep (x₁.base S.base) r₁)
  have hl := hL.isList
  obtain ⟨t, rfl⟩ := rep_int.mp r₂
  refine tail_any (s := { s₂ with heap := _ }) (hl.push _).typeIs slot_list_getitem.lookup (wpAny_getItem_list_slice (hl.push _) (Heap.IsSliceOf.new ..) .none (.int _ _) .none (by simp) ?_ ?_) rfl
  · rw [pick_upto]
    exact kk _ _ (rep_push2 B₂ (hr.take k)) ((x₁.trans x₂).trans step_push2)
  · have := hr.len; rw [List.size_toArray, this]; unfold sizeLine; omega
theorem ev_from {value u p pos l} {k : Nat} (hv : Ev Γ n env ρ value (.list l)) (hu : Ev Γ n env ρ u (.int k)) (hz : l.length ≤ 1000) :
    Ev Γ n env ρ (.Subscript value (.Slice (some u) none none p) pos) (.list (l.drop k)) := fun A X s Q E R S kk => by
  refine Subscript_ (hv A X s _ E R S fun v s₁ r₁ x₁ => wpAny_Slice (hu A X s₁ _ E R (S.step x₁) fun i s₂ r₂ x₂ => wpAny_evalPart_none (wpAny_evalPart_none ?_)))
  have B₂ := x₂.base (x₁.base S.base)
  obtain ⟨a, vs, rfl, hL, hr⟩ := rep_list.mp (x₂.rep (x₁.base S.base) r₁)
  have hl := hL.isList
  obtain ⟨t, rfl⟩ := rep_int.mp r₂
  refine tail_any (s := { s₂ with heap := _ }) (hl.push _).typeIs slot_list_getitem.lookup (wpAny_getItem_list_slice (hl.push _) (Heap.IsSliceOf.new ..) (.int _ _) .none .none (by simp) ?_ ?_) rfl
  · rw [pick_from]
    exact kk _ _ (rep_push2 B₂ (hr.drop k)) ((x₁.trans x₂).trans step_push2)
  · have := hr.len; rw [List.size_toArray, this]; unfold sizeLine; omega
theorem ev_rev {value u p pos l} (hv : Ev Γ n env ρ value (.list l)) (hu : Ev Γ n env ρ u (.int (-1))) (hz : l.length ≤ 1000) :
    Ev Γ n env ρ (.Subscript value (.Slice none none (some u) p) pos) (.list l.reverse) := fun A X s Q E R S kk => by
  refine Subscript_ (hv A X s _ E R S fun v s₁ r₁ x₁ => wpAny_Slice (wpAny_evalPart_none (wpAny_evalPart_none (hu A X s₁ _ E R (S.step x₁) fun i s₂ r₂ x₂ => ?_))))
  have B₂ := x₂.base (x₁.base S.base)
  obtain ⟨a, vs, rfl, hL, hr⟩ := rep_list.mp (x₂.rep (x₁.base S.base) r₁)
  have hl := hL.isList
  obtain ⟨t, rfl⟩ := rep_int.mp r₂
  refine tail_any (s := { s₂ with heap := _ }) (hl.push _).typeIs slot_list_getitem.lookup (wpAny_getItem_list_slice (hl.push _) (Heap.IsSliceOf.new ..) .none .none (.int _ _) (by simp) ?_ ?_) rfl
  · rw [krv_pick]
    exact kk _ _ (rep_push2 B₂ hr.reverse) ((x₁.trans x₂).trans step_push2)
  · have := hr.len; rw [List.size_toArray, this]; unfold sizeLine; omega

/-! ## slices of texts -/
theorem idx_upto (n k : Nat) : Builtin.Str.strSliceIndices none (some (k : Int)) 1 n = Builtin.Str.strSliceIndices (some ((0 : Nat) : Int)) (some ((min k n : Nat) : Int)) 1 n := by
  simp only [Builtin.Str.strSliceIndices, show (1 : Int) > 0 by decide, if_true, clipN]
  rw [Nat.zero_min, Nat.min_assoc, Nat.min_self]; rfl
theorem idx_from (n k : Nat) (hk : k ≤ n) : Builtin.Str.strSliceIndices (some (k : Int)) none 1 n = Builtin.Str.strSliceIndices (some (k : Int)) (some (n : Int)) 1 n := by
  simp only [Builtin.Str.strSliceIndices, show (1 : Int) > 0 by decide, if_true, clipN]
  rw [Nat.min_self]
theorem sli_upto (l : List Nat) (k : Nat) : ((Builtin.Str.strSliceIndices none (some (k : Int)) 1 l.length).filterMap ((mkS l).cps[·]?)) = l.take k := by
  rw [idx_upto]
  have := StrLaws.sliced_plain (mkS l) (a := 0) (b := min k l.length) (by omega) (by rw [mkS_len]; omega)
  rw [mkS_len] at this
  rw [this, mkS_list]
  simp [kmk_take_min]
theorem sli_from (l : List Nat) (k : Nat) (hk : k ≤ l.length) : ((Builtin.Str.strSliceIndices (some (k : Int)) none 1 l.length).filterMap ((mkS l).cps[·]?)) = l.drop k := by
  rw [idx_from _ _ hk]
  have := StrLaws.sliced_plain (mkS l) (a := k) (b := l.length) hk (by rw [mkS_len]; omega)
  rw [mkS_len] at this
  rw [this, mkS_list, List.take_of_length_le]
  rw [List.length_drop]; omega

theorem made_slice {s : Shared} {l r : List Nat} {t : Tok} {lo hi : Option (Int × Tok)} {Q : Value → Shared → Prop} (h : (slicePicked (mkS l) lo hi none).filterMap ((mkS l).cps[·]?) = r)
    (hlen : l.length ≤ 2 ^ 24) (hr : r.length ≤ l.length) (hsame : (slicePicked (mkS l) lo hi none).length = l.length → r = l) (k : ∀ t' j, Q (.str (mkS r) t') { s with toks := j }) : (sliceMade (mkS l) t lo hi none).post Q s := by
  unfold sliceMade
  split
  · rename_i hc
    have : (slicePicked (mkS l) lo hi none).length = l.length := by simpa [mkS_len] using hc
    rw [← hsame this]; exact k t s.toks
  · rw [h]
    refine ⟨?_, k _ _⟩
    show (mkS r).length ≤ sizeLine
    rw [mkS_len]; unfold sizeLine; omega
theorem sub_picks_len (a b len : Nat) (hab : a ≤ b) (hb : b ≤ len) : (Builtin.Str.strSliceIndices (some (a : Int)) (some (b : Int)) 1 len).length = b - a := by
  rw [StrLaws.strSliceIndices_plain hab hb]; simp

theorem ev_supto {value u p pos} {l : List Nat} {k : Nat} (hv : Ev Γ n env ρ value (.str l)) (hu : Ev Γ n env ρ u (.int k)) (hz : l.length ≤ 2 ^ 24) (ht : ∀ o r, letTemporaryGo value o r = pure () := by intro _ _; rfl) :
    Ev Γ n env ρ (.Subscript value (.Slice none (some u) none p) pos) (.str (l.take k)) := fun A X s Q E R S kk => by
  refine wpAny_Subscript_str_slice (hv A X s _ E R S fun v s₁ r₁ x₁ => wpAny_evalPart_none (hu A X s₁ _ E R (S.step x₁) fun i s₂ r₂ x₂ => ?_)) ht
  obtain ⟨t, rfl⟩ := rep_str.mp r₁
  obtain ⟨t', rfl⟩ := rep_int.mp r₂
  refine ⟨mkS l, t, none, some ((k : Int), t'), rfl, rfl, rfl, made_slice (r := l.take k) ?_ hz (by rw [List.length_take]; omega) ?_ fun t' j => kk _ _ (rep_str.mpr ⟨t', rfl⟩) ((x₁.trans x₂).trans (Step.push (tk := j)))⟩
  · unfold slicePicked
    simp only [Option.map_none, Option.map_some, Option.getD_none, mkS_len]
    exact sli_upto l k
  · intro he
    unfold slicePicked at he
    simp only [Option.map_none, Option.map_some, Option.getD_none, mkS_len] at he
    rw [idx_upto, sub_picks_len 0 (min k l.length) l.length (Nat.zero_le _) (Nat.min_le_right _ _)] at he
    clear hz
    rw [List.take_of_length_le (by omega)]
theorem ev_sfrom {value u p pos} {l : List Nat} {k : Nat} (hv : Ev Γ n env ρ value (.str l)) (hu : Ev Γ n env ρ u (.int k)) (hk : k ≤ l.length) (hz : l.length ≤ 2 ^ 24) (ht : ∀ o r, letTemporaryGo value o r = pure () := by intro _ _; rfl) :
    Ev Γ n env ρ (.Subscript value (.Slice (some u) none none p) pos) (.str (l.drop k)) := fun A X s Q E R S kk => by
  refine wpAny_Subscript_str_slice (hv A X s _ E R S fun v s₁ r₁ x₁ => hu A X s₁ _ E R (S.step x₁) fun i s₂ r₂ x₂ => wpAny_evalPart_none ?_) ht
  obtain ⟨t, rfl⟩ := rep_str.mp r₁
  obtain ⟨t', rfl⟩ := rep_int.mp r₂
  refine ⟨mkS l, t, some ((k : Int), t'), none, rfl, rfl, rfl, made_slice (r := l.drop k) ?_ hz (by rw [List.length_drop]; omega) ?_ fun t' j => kk _ _ (rep_str.mpr ⟨t', rfl⟩) ((x₁.trans x₂).trans (Step.push (tk := j)))⟩
  · unfold slicePicked
    simp only [Option.map_none, Option.map_some, Option.getD_none, mkS_len]
    exact sli_from l k hk
  · intro he
    unfold slicePicked at he
    simp only [Option.map_none, Option.map_some, Option.getD_none, mkS_len] at he
    rw [idx_from _ _ hk, sub_picks_len k l.length l.length hk (Nat.le_refl _)] at he
    have : k = 0 ∨ l.length = 0 := by clear hz; omega
    rcases this with rfl | h0
    · rfl
    · rw [List.length_eq_zero_iff.mp h0]; simp
end Mine

namespace Mine
variable {Γ : Cfg} {n : Nat} {env : Env} {ρ : List (Str × D)}

/-! ## calls -/
/-- a def, on data, gives a datum back -/
noncomputable def Fn (Γ : Cfg) (n : Nat) (fl : List Addr) (a : Addr) (ds : List D) (d : D) : Prop :=
  ∀ A X s vals R, Room0 n A → Base Γ X s.heap → RepL X s.heap ds vals → (∀ v s', Rep X s'.heap d v → Step Γ fl s s' → R (.ok (.ret v)) s') → codeAny Γ.M A (.call (.ref a) ⟨vals, []⟩) R s
theorem Fn.le {m fl a ds d} (h : Fn Γ n fl a ds d) (hm : n ≤ m) : Fn Γ m fl a ds d := fun A X s vals R r => h A X s vals R (r.le hm)

/-- a def of the text stands at a -/
structure IsFn (Γ : Cfg) (x : Str) (a : Addr) : Prop where
  name : Γ.mg x = some (.ref a)
  there : ∃ o fd, Γ.h.get? a = some o ∧ o.data = .func fd
  n1 : a ≠ 86
  n2 : a ≠ 103

theorem evs_args {e : Expr} {es : List Expr} {ds} {f : Value} {A X s E pos} {Q : Args → Shared → Prop} (h : Evs Γ n env ρ (e :: es) ds) (R : Room n A) (S : St Γ X env ρ s)
    (k : ∀ vs s', RepL X s'.heap ds vs → Step Γ [] s s' → Q ⟨vs, []⟩ s') : wpAny Γ.M A (evalArgs f true (backTo pos (starEach (e :: es) env)) []) Q E s := by
  have hs : starEach (e :: es) env = (false, eval e env) :: starEach es env := by cases h; assumption
  have g := h.run (E := E) (pos := pos) (Q := fun vs s' => Q ⟨vs, []⟩ s') R S k
  rw [hs] at g ⊢
  exact Calls.evalArgs_plain g

theorem ev_call (K : Γ.Ok) {x : Str} {p pos e es ds d} {a : Addr} (f : IsFn Γ x a) (hk : env.kindOf x = some .globalImplicit) (ha : Evs Γ n env ρ (e :: es) ds) (hc : Fn Γ n [] a ds d)
    (hd : (x == ("__debug__" : Str)) = false := by decide) : Ev Γ n env ρ (.Call (.Name x p) (e :: es) [] pos) d := fun A X s Q E R S k => by
  refine wpAny_Call_NameR (wp_glob K S hk f.name ?_ hd)
  obtain ⟨o, fd, ho, hf⟩ := f.there
  refine Calls.callWith_function (o := o) (fd := fd) (evs_args ha R S fun vs s₁ r₁ x₁ => ⟨⟨(x₁.base S.base).old _ _ ho f.n1 f.n2, hf⟩, ?_⟩)
  exact wpAny_call (hc A X s₁ vs _ R.1 (x₁.base S.base) r₁ fun v s₂ r₂ x₂ => k v s₂ r₂ (x₁.trans x₂))

/-- a built-in, on data -/
noncomputable def Bi (Γ : Cfg) (n : Nat) (f : Value) (ds : List D) (d : D) : Prop :=
  ∀ A X s vals Q E, Room n A → Base Γ X s.heap → RepL X s.heap ds vals → (∀ v s', Rep X s'.heap d v → Step Γ [] s s' → Q v s') → wpAny Γ.M A (call f vals) Q E s
theorem ev_bi (K : Γ.Ok) {x : Str} {p pos e es ds d} {id : String} (hk : env.kindOf x = some .globalImplicit) (hm : Γ.mg x = none) (hv : bootBuiltins x = some (.builtin id)) (ha : Evs Γ n env ρ (e :: es) ds)
    (hc : Bi Γ n (.builtin id) ds d) (hpl : (backTo pos (starEach (e :: es) env)).any (·.1) = false := by rfl)
    (hd : (x == ("__debug__" : Str)) = false := by decide) (hn : x ≠ "__name__" := by decide) : Ev Γ n env ρ (.Call (.Name x p) (e :: es) [] pos) d := fun A X s Q E R S k => by
  refine wpAny_Call_NameR (wp_bi K S hk hm hv ?_ hd hn)
  refine Calls.callWith_builtin hpl (evs_args ha R S fun vs s₁ r₁ x₁ => hc A X s₁ _ _ E R (x₁.base S.base) (by simpa using r₁) fun v s₂ r₂ x₂ => k v s₂ r₂ (x₁.trans x₂))
theorem bi_len {l : List D} (h : l.length ≤ 1000) : Bi Γ n (.builtin "len") [.list l] (.int l.length) := fun A X s vals Q E R B rv k => by
  obtain ⟨v, rfl, hv⟩ := repL1 (rv)
  obtain ⟨a, vs, rfl, hl, hr⟩ := rep_list.mp hv
  have e := hr.len
  exact Calls.call_len_list hl.isList (by simp; omega) (k _ _ (rep_int.mpr ⟨s.toks + 1, by simp [e]⟩) Step.tok)
theorem bi_lens {l : List Nat} (h : l.length ≤ 2 ^ 24) : Bi Γ n (.builtin "len") [.str l] (.int l.length) := fun A X s vals Q E R B rv k => by
  obtain ⟨v, rfl, hv⟩ := repL1 (rv)
  obtain ⟨t, rfl⟩ := rep_str.mp hv
  exact P.len_str (by rw [mkS_len]; omega) (k _ _ (rep_int.mpr ⟨_, by rw [mkS_len]⟩) Step.tok)

/-! ## methods of one argument -/
theorem ev_rstrip {o e : Expr} {apos pos} {l c : List Nat} (ho : Ev Γ n env ρ o (.str l)) (he : Ev Γ n env ρ e (.str c)) (hz : l.length ≤ 2 ^ 24)
    (hbase : attributeBase o "rstrip" env (eval o env) = eval o env := by rfl) (hs : starEach [e] env = [(false, eval e env)] := by rfl) (hline : (apos.endLine == pos.line) = true := by decide) :
    Ev Γ n env ρ (.Call (.Attribute o "rstrip" apos) [e] [] pos) (.str (Txt.rstripChars (mkS l) (mkS c)).cps.toList) := fun A X s Q E R S k => by
  refine Call_method1 hbase hs hline (ho A X s _ E R S fun v s₁ r₁ x₁ => ?_)
  obtain ⟨t, rfl⟩ := rep_str.mp r₁
  refine SB.rstripChars (he A X s₁ _ E R (S.step x₁) fun u s₂ r₂ x₂ => ?_) (by rw [mkS_len]; unfold sizeLine; omega)
  obtain ⟨t', rfl⟩ := rep_str.mp r₂
  exact ⟨mkS c, t', rfl, fun t'' j => k _ _ (rep_str.mpr ⟨t'', by simp [mkS]⟩) ((x₁.trans x₂).trans Step.tok)⟩
theorem ev_rfind {o e : Expr} {apos pos} {l c : List Nat} (ho : Ev Γ n env ρ o (.str l)) (he : Ev Γ n env ρ e (.str c))
    (hbase : attributeBase o "rfind" env (eval o env) = eval o env := by rfl) (hs : starEach [e] env = [(false, eval e env)] := by rfl) (hline : (apos.endLine == pos.line) = true := by decide) :
    Ev Γ n env ρ (.Call (.Attribute o "rfind" apos) [e] [] pos) (.int (Txt.rfind (mkS l) (mkS c))) := fun A X s Q E R S k => by
  refine Call_method1 hbase hs hline (ho A X s _ E R S fun v s₁ r₁ x₁ => ?_)
  obtain ⟨t, rfl⟩ := rep_str.mp r₁
  refine SB.rfind (he A X s₁ _ E R (S.step x₁) fun u s₂ r₂ x₂ => ?_)
  obtain ⟨t', rfl⟩ := rep_str.mp r₂
  exact ⟨mkS c, t', rfl, k _ _ (rep_int.mpr ⟨_, rfl⟩) ((x₁.trans x₂).trans Step.tok)⟩

/-! ## lists of ints, of texts -/
theorem RepL.ints {X h} : ∀ {ns : List Int} {vs : List Value}, RepL X h (ns.map D.int) vs → IntsAre vs ns
  | [], _, x => by rw [List.map_nil, repL_nil] at x; subst x; exact .nil
  | i :: ns, vs, x => by
    rw [List.map_cons, repL_cons] at x
    obtain ⟨v, r, rfl, hv, hr⟩ := x
    obtain ⟨t, rfl⟩ := rep_int.mp hv
    exact .cons i t (RepL.ints hr)
theorem RepL.ofInts {X h} : ∀ {ns : List Int} {vs : List Value}, IntsAre vs ns → RepL X h (ns.map D.int) vs
  | _, _, .nil => repL_nil.mpr rfl
  | _, _, .cons i t r => by rw [List.map_cons, repL_cons]; exact ⟨_, _, rfl, rep_int.mpr ⟨t, rfl⟩, RepL.ofInts r⟩
theorem RepL.strs {X h} : ∀ {ns : List (List Nat)} {vs : List Value}, RepL X h (ns.map D.str) vs → StrsAre vs (ns.map mkS)
  | [], _, x => by rw [List.map_nil, repL_nil] at x; subst x; exact .nil
  | i :: ns, vs, x => by
    rw [List.map_cons, repL_cons] at x
    obtain ⟨v, r, rfl, hv, hr⟩ := x
    obtain ⟨t, rfl⟩ := rep_str.mp hv
    exact .cons _ t (RepL.strs hr)
theorem mkS_inj {a b : List Nat} : mkS a = mkS b ↔ a = b := ⟨fun h => by rw [← mkS_list a, ← mkS_list b, h], fun h => by rw [h]⟩

theorem op_in_ints {k : Int} {l : List Int} : Op2 Γ n (compareOp .In) (.int k) (.list (l.map .int)) (.bool (l.contains k)) := fun A X s v u Q E R B hv hu kk => by
  obtain ⟨t, rfl⟩ := rep_int.mp hv
  obtain ⟨a, vs, rfl, hl, hr⟩ := rep_list.mp hu
  exact in_list_ints hl.isList hr.ints (kk _ _ (rep_bool.mpr (by rw [List.any_beq'])) (Step.refl _))
theorem op_notin_ints {k : Int} {l : List Int} : Op2 Γ n (compareOp .NotIn) (.int k) (.list (l.map .int)) (.bool (!l.contains k)) := fun A X s v u Q E R B hv hu kk => by
  obtain ⟨t, rfl⟩ := rep_int.mp hv
  obtain ⟨a, vs, rfl, hl, hr⟩ := rep_list.mp hu
  exact notin_list_ints hl.isList hr.ints (kk _ _ (rep_bool.mpr (by rw [List.any_beq'])) (Step.refl _))
theorem any_mkS (k : List Nat) : ∀ l : List (List Nat), (l.map mkS).any (· == mkS k) = l.contains k
  | [] => rfl
  | x :: r => by
    rw [List.map_cons, List.any_cons, List.contains_cons, any_mkS k r]
    congr 1
    rw [Bool.eq_iff_iff, beq_iff_eq, beq_iff_eq, mkS_inj]
    exact eq_comm
theorem op_in_strs {k : List Nat} {l : List (List Nat)} : Op2 Γ n (compareOp .In) (.str k) (.list (l.map .str)) (.bool (l.contains k)) := fun A X s v u Q E R B hv hu kk => by
  obtain ⟨t, rfl⟩ := rep_str.mp hv
  obtain ⟨a, vs, rfl, hl, hr⟩ := rep_list.mp hu
  exact in_list_strs hl.isList hr.strs (kk _ _ (rep_bool.mpr (by rw [any_mkS])) (Step.refl _))

/-- index and count, ints in a list of ints -/
theorem bi_count {k : Int} {l : List Int} : Bi Γ n (.builtin "list.count") [.list (l.map .int), .int k] (.int (l.count k)) := fun A X s vals Q E R B rv kk => by
  obtain ⟨v, u, rfl, hv, hu⟩ := repL2 (rv)
  obtain ⟨t, rfl⟩ := rep_int.mp hu
  obtain ⟨a, vs, rfl, hl, hr⟩ := rep_list.mp hv
  exact count_list_ints hl.isList hr.ints (kk _ _ (rep_int.mpr ⟨_, rfl⟩) Step.tok)
open PySem.MeetsSeq PySem.MeetsSeq2 PySem.MeetsSeq3 in
theorem bi_index {k : Int} {l : List Int} (hk : k ∈ l) (hz : l.length ≤ 1000) : Bi Γ n (.builtin "list.index") [.list (l.map .int), .int k] (.int (l.idxOf k)) := fun A X s vals Q E R B rv kk => by
  obtain ⟨v, u, rfl, hv, hu⟩ := repL2 (rv)
  obtain ⟨t, rfl⟩ := rep_int.mp hu
  obtain ⟨a, vs, rfl, hL, hr⟩ := rep_list.mp hv
  have hi := hr.ints
  obtain ⟨⟨cls, dd, data, sl⟩, ho, hc, n', hd⟩ := hL.isList
  simp only at hc hd
  subst hc hd
  have hlen := hi.length
  have hj : l.idxOf k < l.length := List.idxOf_lt_length_iff.mpr hk
  refine call_meets PySem.F.slot_list_index ⟨_, ho, rfl⟩ PySem.F.entry_list_index (PySem.F.args_list_index_2 _ _)
    (PySem.SeqAt.list_indexAt a vs.toArray n' dd sl (.int k t) (isInt k) (l.idxOf k) (by simpa [hlen] using hj) (by omega) ?_ ?_) ⟨ho, fun y hy => (eq_isInt k t hi y (by simpa using hy)).at _ _, kk _ _ (rep_int.mpr ⟨_, rfl⟩) Step.tok⟩
  · show isInt k vs[l.idxOf k] = true
    rw [isInt_at k hi _ (by omega) hj]
    simpa using List.getElem_idxOf hj
  · intro j hjs hlt
    show isInt k vs[j] = false
    rw [isInt_at k hi j (by simpa using hjs) (by omega)]
    exact ne_of_lt_idxOf hlt _

/-- a method of a list with one argument -/
theorem ev_lmeth {o e : Expr} {name : Str} {id : String} {apos pos} {l : List D} {c d : D} (ho : Ev Γ n env ρ o (.list l)) (he : Ev Γ n env ρ e c) (slot : Slot "list" name id) (ty : typeOf (.builtin id) = pure (.type "method_descriptor"))
    (hc : Bi Γ n (.builtin id) [.list l, c] d)
    (hbase : attributeBase o name env (eval o env) = eval o env := by rfl) (hs : starEach [e] env = [(false, eval e env)] := by rfl) (hline : (apos.endLine == pos.line) = true := by decide) :
    Ev Γ n env ρ (.Call (.Attribute o name apos) [e] [] pos) d := fun A X s Q E R S k => by
  refine Call_method1 hbase hs hline (ho A X s _ E R S fun v s₁ r₁ x₁ => ?_)
  have B₁ := x₁.base S.base
  obtain ⟨a, vs, rfl, hl, hr⟩ := rep_list.mp r₁
  refine ⟨"list", id, PySem.F.plainAttrs_list, slot, ty, hl.isList.typeIs, fun b hb => ?_, ?_⟩
  · cases hb
    obtain ⟨ob, _, e1, _, e2, _⟩ := hl.obj
    exact ⟨ob, e1, e2⟩
  refine Calls.callWith_builtin rfl (Calls.evalArgs_plain (Calls.spliced_cons (he A X s₁ _ E R (S.step x₁) fun u s₂ r₂ x₂ => Calls.spliced_nil ?_)))
  refine hc A X s₂ _ Q E R (x₂.base B₁) ?_ fun v s₃ r₃ x₃ => k v s₃ r₃ ((x₁.trans x₂).trans x₃)
  exact repL_cons.mpr ⟨_, _, rfl, x₂.rep B₁ r₁, repL_cons.mpr ⟨_, _, rfl, r₂, repL_nil.mpr rfl⟩⟩
end Mine

namespace Mine
variable {Γ : Cfg} {n : Nat} {env : Env} {ρ : List (Str × D)}
open PySem.SeqAt (EqAt RcAt RcNeAt)

/-! ## sameness of data is == of values -/
mutual
noncomputable def dep : D → Nat
  | .list l | .tup l => depL l + 1
  | _ => 0
noncomputable def depL : List D → Nat
  | [] => 0
  | d :: r => max (dep d) (depL r)
end
theorem dep_le_depL : ∀ {l : List D} {i : Nat} {d : D}, l[i]? = some d → dep d ≤ depL l
  | [], i, d, h => by simp at h
  | x :: r, 0, d, h => by simp at h; subst h; simp only [depL]; omega
  | x :: r, i + 1, d, h => by
    have := dep_le_depL (l := r) (i := i) (d := d) (by simpa using h)
    simp only [depL]; omega

theorem isTuple {h : Heap} {a : Addr} {vs : Array Value} (x : IsTup h a vs) : h.IsTuple a vs := x

mutual
noncomputable def Plain : D → Prop
  | .bool _ => False
  | .none => False
  | .typ _ => False
  | .adr _ => False
  | .int _ => True
  | .str _ => True
  | .list l => PlainL l
  | .tup l => PlainL l
noncomputable def PlainL : List D → Prop
  | [] => True
  | d :: r => Plain d ∧ PlainL r
end
theorem PlainL.mem {d : D} : ∀ {l : List D}, PlainL l → d ∈ l → Plain d
  | [], _, h => absurd h List.not_mem_nil
  | _ :: _, hp, h => (List.mem_cons.mp h).elim (fun e => e ▸ hp.1) fun h => PlainL.mem hp.2 h
theorem PlainL.of : ∀ {l : List D}, (∀ d ∈ l, Plain d) → PlainL l
  | [], _ => trivial
  | _ :: _, h => ⟨h _ List.mem_cons_self, PlainL.of fun d hd => h d (List.mem_cons_of_mem _ hd)⟩

theorem all_true (m : Nat) : (List.range m).all (fun _ => true) = true := by simp

theorem sameAt {X : List Addr} : ∀ (k : Nat) {d : D} {v u : Value} {A : Around} {s : Shared}, dep d ≤ k → Plain d → A.units + k < cLine → Rep X s.heap d v → Rep X s.heap d u → EqAt A s v u true
  | k, .bool _, v, u, A, s, _, hp, _, _, _ => hp.elim
  | k, .none, v, u, A, s, _, hp, _, _, _ => hp.elim
  | k, .typ _, v, u, A, s, _, hp, _, _, _ => hp.elim
  | k, .adr _, v, u, A, s, _, hp, _, _, _ => hp.elim
  | k, .int i, v, u, A, s, _, _, _, hv, hu => by
    obtain ⟨t, rfl⟩ := rep_int.mp hv; obtain ⟨t', rfl⟩ := rep_int.mp hu
    have := (MeetsSeq.EqGives.int i i t t').at A s
    simpa using this
  | k, .str i, v, u, A, s, _, _, _, hv, hu => by
    obtain ⟨t, rfl⟩ := rep_str.mp hv; obtain ⟨t', rfl⟩ := rep_str.mp hu
    have := (eqGives_str (mkS i) (mkS i) t t').at A s
    simpa [isStrOf] using this
  | 0, .list l, v, u, A, s, hd, _, _, _, _ => by simp only [dep] at hd; omega
  | 0, .tup l, v, u, A, s, hd, _, _, _, _ => by simp only [dep] at hd; omega
  | k + 1, .list l, v, u, A, s, hd, hp, hr, hv, hu => by
    obtain ⟨a, vs, rfl, hl, hrv⟩ := rep_list.mp hv
    obtain ⟨b, us, rfl, hm, hru⟩ := rep_list.mp hu
    by_cases hab : a = b
    · subst hab; exact EqAt.same _
    refine EqAt.of_refs hab ?_
    have e : vs.toArray.size = us.toArray.size := by rw [List.size_toArray, List.size_toArray, hrv.len, hru.len]
    have := RcAt.lists (A := A) (s := s) (e := fun _ => true) hl.isList hm.isList e (by omega) fun j h1 h2 => ?_
    · rwa [all_true] at this
    · have hj : j < l.length := by rw [← hrv.len]; simpa using h1
      obtain ⟨w1, e1, r1⟩ := hrv.get (List.getElem?_eq_getElem hj)
      obtain ⟨w2, e2, r2⟩ := hru.get (List.getElem?_eq_getElem hj)
      have f1 : vs.toArray[j] = w1 := by
        have := (List.getElem?_eq_some_iff.mp e1).2; simpa using this
      have f2 : us.toArray[j] = w2 := by
        have := (List.getElem?_eq_some_iff.mp e2).2; simpa using this
      rw [f1, f2]
      refine sameAt k ?_ ?_ (by show A.units + 1 + k < cLine; omega) r1 r2
      · have := dep_le_depL (List.getElem?_eq_getElem hj); simp only [dep] at hd; omega
      · exact PlainL.mem hp (List.getElem_mem hj)
  | k + 1, .tup l, v, u, A, s, hd, hp, hr, hv, hu => by
    obtain ⟨a, vs, rfl, hl, hrv⟩ := rep_tup.mp hv
    obtain ⟨b, us, rfl, hm, hru⟩ := rep_tup.mp hu
    by_cases hab : a = b
    · subst hab; exact EqAt.same _
    refine EqAt.of_refs hab ?_
    have e : vs.toArray.size = us.toArray.size := by rw [List.size_toArray, List.size_toArray, hrv.len, hru.len]
    have := RcAt.tuples (A := A) (s := s) (e := fun _ => true) (isTuple hl.obj) (isTuple hm.obj) (by omega) fun j h1 h2 => ?_
    · rwa [all_true, e, beq_self_eq_true, Bool.and_self] at this
    · have hj : j < l.length := by rw [← hrv.len]; simpa using h1
      obtain ⟨w1, e1, r1⟩ := hrv.get (List.getElem?_eq_getElem hj)
      obtain ⟨w2, e2, r2⟩ := hru.get (List.getElem?_eq_getElem hj)
      have f1 : vs.toArray[j] = w1 := by
        have := (List.getElem?_eq_some_iff.mp e1).2; simpa using this
      have f2 : us.toArray[j] = w2 := by
        have := (List.getElem?_eq_some_iff.mp e2).2; simpa using this
      rw [f1, f2]
      refine sameAt k ?_ ?_ (by show A.units + 1 + k < cLine; omega) r1 r2
      · have := dep_le_depL (List.getElem?_eq_getElem hj); simp only [dep] at hd; omega
      · exact PlainL.mem hp (List.getElem_mem hj)

theorem op_ne_tup {l : List D} (hd : depL l ≤ 8) (hp : Plain (.tup l)) : Op2 Γ (n + 1) (compareOp .NotEq) (.tup l) (.tup l) (.bool false) := fun A X s v u Q E R B hv hu k => by
  obtain ⟨a, vs, rfl, hl, hrv⟩ := rep_tup.mp hv
  obtain ⟨b, us, rfl, hm, hru⟩ := rep_tup.mp hu
  have hun := R.1.2.2.1
  have hc : cLine = 9900 := rfl
  have e : vs.toArray.size = us.toArray.size := by rw [List.size_toArray, List.size_toArray, hrv.len, hru.len]
  refine RcNeAt.tuples (A := A) (s := s) (e := fun _ => true) (isTuple hl.obj) (isTuple hm.obj) (by omega) (fun j h1 h2 => ?_) Γ.prog Γ.w E Q ?_
  · have hj : j < l.length := by rw [← hrv.len]; simpa using h1
    obtain ⟨w1, e1, r1⟩ := hrv.get (List.getElem?_eq_getElem hj)
    obtain ⟨w2, e2, r2⟩ := hru.get (List.getElem?_eq_getElem hj)
    have f1 : vs.toArray[j] = w1 := by
      have := (List.getElem?_eq_some_iff.mp e1).2; simpa using this
    have f2 : us.toArray[j] = w2 := by
      have := (List.getElem?_eq_some_iff.mp e2).2; simpa using this
    rw [f1, f2]
    refine sameAt 8 ?_ ?_ (by show A.units + 1 + 8 < cLine; omega) r1 r2
    · have := dep_le_depL (List.getElem?_eq_getElem hj); omega
    · exact PlainL.mem hp (List.getElem_mem hj)
  · rw [all_true, e, beq_self_eq_true, Bool.and_self]
    exact k _ _ (rep_bool.mpr rfl) (Step.refl _)
/-- the empty list against an empty list -/
theorem op_ne_nil : Op2 Γ (n + 1) (compareOp .NotEq) (.list []) (.list []) (.bool false) := fun A X s v u Q E R B hv hu k => by
  obtain ⟨a, vs, rfl, hl, hrv⟩ := rep_list.mp hv
  obtain ⟨b, us, rfl, hm, hru⟩ := rep_list.mp hu
  rw [repL_nil] at hrv hru; subst hrv hru
  refine RcNeAt.lists (A := A) (s := s) (e := fun _ => true) hl.isList hm.isList rfl R.1.units (fun j h1 _ => absurd h1 (by simp)) Γ.prog Γ.w E Q ?_
  exact k _ _ (rep_bool.mpr (by simp)) (Step.refl _)

/-! ## the order of lists of texts -/
noncomputable def gtL : List (List Nat) → List (List Nat) → Bool
  | [], _ => false
  | _ :: _, [] => true
  | x :: xs, y :: ys => if x = y then gtL xs ys else decide (y < x)

noncomputable def ltL : List (List Nat) → List (List Nat) → Bool
  | [], [] => false
  | [], _ :: _ => true
  | _ :: _, [] => false
  | x :: xs, y :: ys => if x = y then ltL xs ys else decide (x < y)
theorem ltL_eq : ∀ a b, ltL a b = gtL b a
  | [], [] => rfl
  | [], _ :: _ => rfl
  | _ :: _, [] => rfl
  | x :: xs, y :: ys => by
    rw [ltL, gtL, ltL_eq xs ys]
    by_cases h : x = y
    · rw [if_pos h, if_pos h.symm]
    · rw [if_neg h, if_neg (Ne.symm h)]

theorem drop_one {α : Type} {l : List α} {i : Nat} (h : i < l.length) : l.drop i = l[i] :: l.drop (i + 1) := List.drop_eq_getElem_cons h
theorem strs_at {xs : List Value} {ds : List (List Nat)} (h : StrsAre xs (ds.map mkS)) {i : Nat} (hi : i < ds.length) : ∃ t, xs[i]? = some (.str (mkS ds[i]) t) :=
  h.get i _ (by simp [hi])
theorem gtL_nil (b) : gtL [] b = false := by cases b <;> rfl

open PySem.AutoSeq1 (wpAny_loadPart') in
open PySem.MeetsSeq PySem.MeetsSeq2 PySem.MeetsSeq3 PySem.SeqRoads2 in
theorem gt_loop (l b : Addr) (xs ys : List Value) (ds es : List (List Nat)) (n' n2 : Nat) (dd dd2 : Option Addr) (sl sl2 : Array (Option Value)) (hx : StrsAre xs (ds.map mkS)) (hy : StrsAre ys (es.map mkS)) (k : Nat) :
    ∀ i : Nat, ds.length - i = k → i ≤ ds.length → i ≤ es.length → Meets (Builtin.«list.__eq__.loop» ⟨[.ref l, .ref b, rawInt i, rawInt 4], []⟩)
      (fun A R s => s.heap.get? l = some { cls := .type "list", dict := dd, data := .seq xs.toArray n', slots := sl } ∧ s.heap.get? b = some { cls := .type "list", dict := dd2, data := .seq ys.toArray n2, slots := sl2 } ∧
        R (.ok (.ret (.bool (gtL (ds.drop i) (es.drop i))))) s) := by
  have lx : xs.length = ds.length := by rw [hx.length, List.length_map]
  have ly : ys.length = es.length := by rw [hy.length, List.length_map]
  induction k with
  | zero =>
    intro i hk h1 h2 prog w A R s h
    obtain ⟨hp, g, d, tk, os⟩ := s; obtain ⟨hl, hb, h⟩ := h
    have hi1 : xs.toArray[((i : Nat) : Int).toNat]? = none := by simp; omega
    wp_walk using wpAny_loadPart' hl, wpAny_loadPart' hb
    rw [hi1]
    wp_walk using wpAny_loadPart' hl, wpAny_loadPart' hb
    show R (.ok (.ret (.bool (decide (xs.toArray.size > ys.toArray.size))))) _
    have e : decide (xs.toArray.size > ys.toArray.size) = false := by
      apply decide_eq_false; rw [List.size_toArray, List.size_toArray]; omega
    rw [e]
    rwa [List.drop_of_length_le (by omega), gtL_nil] at h
  | succ k ih =>
    intro i hk h1 h2 prog w A R s h
    obtain ⟨hp, g, d, tk, os⟩ := s; obtain ⟨hl, hb, h⟩ := h
    have hlt : i < ds.length := by omega
    have hc : ((i : Int) + 1) = ((i + 1 : Nat) : Int) := by push_cast; rfl
    obtain ⟨t, ex⟩ := strs_at hx hlt
    have hi1 : xs.toArray[((i : Nat) : Int).toNat]? = some (.str (mkS ds[i]) t) := by simpa using ex
    wp_walk using wpAny_loadPart' hl, wpAny_loadPart' hb
    by_cases hlt2 : i < es.length
    · obtain ⟨u, ey⟩ := strs_at hy hlt2
      have hi2 : ys.toArray[((i : Nat) : Int).toNat]? = some (.str (mkS es[i]) u) := by simpa using ey
      rw [hi1, hi2]
      rw [drop_one hlt, drop_one hlt2] at h
      refine wpAny_bind (((eqGives_str (mkS ds[i]) (mkS es[i]) t u).at A.in1 _) prog w _ _ ?_)
      by_cases he : ds[i] = es[i]
      · have hb' : (mkS ds[i] == mkS es[i]) = true := by rw [he]; simp
        rw [hb']
        wp_walk
        rw [hc]
        refine ⟨plainId_quiet plain_eq_loop _, codeAny_builtin entry_eq_loop (by
          rw [Around.under_plainId plain_eq_loop _]
          refine ih (i + 1) (by omega) (by omega) (by omega) prog w A R _ ⟨hl, hb, ?_⟩
          rw [gtL, if_pos he] at h; exact h)⟩
      · have hb' : (mkS ds[i] == mkS es[i]) = false := by
          rw [beq_eq_false_iff_ne]; intro q; exact he (mkS_inj.mp q)
        rw [hb']
        wp_walk using wpAny_loadPart' hl, wpAny_loadPart' hb
        rw [hi1, hi2]
        refine wpAny_bind (wpAny_mono (P.gt_str (E := fun e s' => R (.error e) s') (Q := fun v s' => R (.ok (.ret v)) s') ?_) (fun v s' hq => wpAny_pure hq) (fun _ _ x => x))
        rw [gtL, if_neg he] at h
        rw [mkS_list, mkS_list]; exact h
    · have hi2 : ys.toArray[((i : Nat) : Int).toNat]? = none := by simp; omega
      rw [hi1, hi2]
      wp_walk using wpAny_loadPart' hl, wpAny_loadPart' hb
      show R (.ok (.ret (.bool (decide (xs.toArray.size > ys.toArray.size))))) _
      have e : decide (xs.toArray.size > ys.toArray.size) = true := by
        apply decide_eq_true; rw [List.size_toArray, List.size_toArray]; omega
      rw [e]
      rw [drop_one hlt, List.drop_of_length_le (Nat.not_lt.mp hlt2)] at h
      exact h
open PySem.AutoSeq1 (wpAny_loadPart') in
open PySem.MeetsSeq PySem.MeetsSeq2 PySem.MeetsSeq3 PySem.SeqRoads2 in
theorem lt_loop (l b : Addr) (xs ys : List Value) (ds es : List (List Nat)) (n' n2 : Nat) (dd dd2 : Option Addr) (sl sl2 : Array (Option Value)) (hx : StrsAre xs (ds.map mkS)) (hy : StrsAre ys (es.map mkS)) (k : Nat) :
    ∀ i : Nat, ds.length - i = k → i ≤ ds.length → i ≤ es.length → Meets (Builtin.«list.__eq__.loop» ⟨[.ref l, .ref b, rawInt i, rawInt 0], []⟩)
      (fun A R s => s.heap.get? l = some { cls := .type "list", dict := dd, data := .seq xs.toArray n', slots := sl } ∧ s.heap.get? b = some { cls := .type "list", dict := dd2, data := .seq ys.toArray n2, slots := sl2 } ∧
        R (.ok (.ret (.bool (ltL (ds.drop i) (es.drop i))))) s) := by
  have lx : xs.length = ds.length := by rw [hx.length, List.length_map]
  have ly : ys.length = es.length := by rw [hy.length, List.length_map]
  induction k with
  | zero =>
    intro i hk h1 h2 prog w A R s h
    obtain ⟨hp, g, d, tk, os⟩ := s; obtain ⟨hl, hb, h⟩ := h
    have hi1 : xs.toArray[((i : Nat) : Int).toNat]? = none := by simp; omega
    wp_walk using wpAny_loadPart' hl, wpAny_loadPart' hb
    rw [hi1]
    wp_walk using wpAny_loadPart' hl, wpAny_loadPart' hb
    show R (.ok (.ret (.bool (decide (xs.toArray.size < ys.toArray.size))))) _
    have hi : i = ds.length := by omega
    have e : decide (xs.toArray.size < ys.toArray.size) = ltL (ds.drop i) (es.drop i) := by
      rw [List.size_toArray, List.size_toArray, List.drop_of_length_le (by omega : ds.length ≤ i)]
      rcases Nat.lt_or_ge i es.length with q | q
      · rw [drop_one q]; exact decide_eq_true (by omega)
      · rw [List.drop_of_length_le q]; exact decide_eq_false (by omega)
    rw [e]; exact h
  | succ k ih =>
    intro i hk h1 h2 prog w A R s h
    obtain ⟨hp, g, d, tk, os⟩ := s; obtain ⟨hl, hb, h⟩ := h
    have hlt : i < ds.length := by omega
    have hc : ((i : Int) + 1) = ((i + 1 : Nat) : Int) := by push_cast; rfl
    obtain ⟨t, ex⟩ := strs_at hx hlt
    have hi1 : xs.toArray[((i : Nat) : Int).toNat]? = some (.str (mkS ds[i]) t) := by simpa using ex
    wp_walk using wpAny_loadPart' hl, wpAny_loadPart' hb
    by_cases hlt2 : i < es.length
    · obtain ⟨u, ey⟩ := strs_at hy hlt2
      have hi2 : ys.toArray[((i : Nat) : Int).toNat]? = some (.str (mkS es[i]) u) := by simpa using ey
      rw [hi1, hi2]
      rw [drop_one hlt, drop_one hlt2] at h
      refine wpAny_bind (((eqGives_str (mkS ds[i]) (mkS es[i]) t u).at A.in1 _) prog w _ _ ?_)
      by_cases he : ds[i] = es[i]
      · have hb' : (mkS ds[i] == mkS es[i]) = true := by rw [he]; simp
        rw [hb']
        wp_walk
        rw [hc]
        refine ⟨plainId_quiet plain_eq_loop _, codeAny_builtin entry_eq_loop (by
          rw [Around.under_plainId plain_eq_loop _]
          refine ih (i + 1) (by omega) (by omega) (by omega) prog w A R _ ⟨hl, hb, ?_⟩
          rw [ltL, if_pos he] at h; exact h)⟩
      · have hb' : (mkS ds[i] == mkS es[i]) = false := by
          rw [beq_eq_false_iff_ne]; intro q; exact he (mkS_inj.mp q)
        rw [hb']
        wp_walk using wpAny_loadPart' hl, wpAny_loadPart' hb
        rw [hi1, hi2]
        refine wpAny_bind (wpAny_mono (P.lt_str (E := fun e s' => R (.error e) s') (Q := fun v s' => R (.ok (.ret v)) s') ?_) (fun v s' hq => wpAny_pure hq) (fun _ _ x => x))
        rw [ltL, if_neg he] at h
        rw [mkS_list, mkS_list]; exact h
    · have hi2 : ys.toArray[((i : Nat) : Int).toNat]? = none := by simp; omega
      rw [hi1, hi2]
      wp_walk using wpAny_loadPart' hl, wpAny_loadPart' hb
      show R (.ok (.ret (.bool (decide (xs.toArray.size < ys.toArray.size))))) _
      have e : decide (xs.toArray.size < ys.toArray.size) = false := by
        apply decide_eq_false; rw [List.size_toArray, List.size_toArray]; omega
      rw [e]
      rw [drop_one hlt, List.drop_of_length_le (Nat.not_lt.mp hlt2)] at h
      exact h

open PySem.AutoSeq1 (wpAny_loadPart') in
open PySem.MeetsSeq PySem.MeetsSeq2 PySem.MeetsSeq3 PySem.SeqRoads2 in
theorem list_gtM (l b : Addr) (xs ys : List Value) (ds es : List (List Nat)) (n' n2 : Nat) (dd dd2 : Option Addr) (sl sl2 : Array (Option Value)) (hx : StrsAre xs (ds.map mkS)) (hy : StrsAre ys (es.map mkS)) :
    Meets (Builtin.«list.__gt__» ⟨[.ref l, .ref b], []⟩)
      (fun A R s => s.heap.get? l = some { cls := .type "list", dict := dd, data := .seq xs.toArray n', slots := sl } ∧ s.heap.get? b = some { cls := .type "list", dict := dd2, data := .seq ys.toArray n2, slots := sl2 } ∧
        R (.ok (.ret (.bool (gtL ds es)))) s) := by
  intro prog w A R s h
  obtain ⟨hp, g, d, tk, os⟩ := s; obtain ⟨hl, hb, h⟩ := h
  have f3 := AutoSeq1.sub_list_list
  wp_walk using wpAny_loadPart' hl, wpAny_loadPart' hb
  exact ⟨plainId_quiet plain_eq_loop _, codeAny_builtin entry_eq_loop (by
    rw [Around.under_plainId plain_eq_loop _]
    exact gt_loop l b xs ys ds es n' n2 dd dd2 sl sl2 hx hy _ 0 rfl (Nat.zero_le _) (Nat.zero_le _) prog w A R _ ⟨hl, hb, by simpa using h⟩)⟩

open PySem.AutoSeq1 (wpAny_loadPart') in
open PySem.MeetsSeq PySem.MeetsSeq2 PySem.MeetsSeq3 PySem.SeqRoads2 in
theorem list_ltM (l b : Addr) (xs ys : List Value) (ds es : List (List Nat)) (n' n2 : Nat) (dd dd2 : Option Addr) (sl sl2 : Array (Option Value)) (hx : StrsAre xs (ds.map mkS)) (hy : StrsAre ys (es.map mkS)) :
    Meets (Builtin.«list.__lt__» ⟨[.ref l, .ref b], []⟩)
      (fun A R s => s.heap.get? l = some { cls := .type "list", dict := dd, data := .seq xs.toArray n', slots := sl } ∧ s.heap.get? b = some { cls := .type "list", dict := dd2, data := .seq ys.toArray n2, slots := sl2 } ∧
        R (.ok (.ret (.bool (ltL ds es)))) s) := by
  intro prog w A R s h
  obtain ⟨hp, g, d, tk, os⟩ := s; obtain ⟨hl, hb, h⟩ := h
  have f3 := AutoSeq1.sub_list_list
  wp_walk using wpAny_loadPart' hl, wpAny_loadPart' hb
  exact ⟨plainId_quiet plain_eq_loop _, codeAny_builtin entry_eq_loop (by
    rw [Around.under_plainId plain_eq_loop _]
    exact lt_loop l b xs ys ds es n' n2 dd dd2 sl sl2 hx hy _ 0 rfl (Nat.zero_le _) (Nat.zero_le _) prog w A R _ ⟨hl, hb, by simpa using h⟩)⟩

theorem op_gt_list {ds es : List (List Nat)} : Op2 Γ (n + 1) (compareOp .Gt) (.list (ds.map .str)) (.list (es.map .str)) (.bool (gtL ds es)) := fun A X s v u Q E R B hv hu k => by
  obtain ⟨a, vs, rfl, hL, hrv⟩ := rep_list.mp hv
  obtain ⟨b, us, rfl, hM, hru⟩ := rep_list.mp hu
  obtain ⟨⟨cls, dd, data, sl⟩, ho, hc, n, hd⟩ := hL.isList
  obtain ⟨⟨cls2, dd2, data2, sl2⟩, ho2, hc2, n2, hd2⟩ := hM.isList
  simp only at hc hd hc2 hd2
  subst hc hd hc2 hd2
  show wpAny _ _ (richCompare .Gt _ _) _ _ _
  exact richCompare_meets_room (op := .Gt) ⟨_, ho, rfl⟩ ⟨_, ho2, rfl⟩ F.slot_list_gt F.entry_list_gt (F.args_list_gt_2 _ _) (list_gtM a b vs us ds es n n2 dd dd2 sl sl2 hrv.strs hru.strs)
    ⟨ho, ho2, (fun x => nomatch x), k _ _ (rep_bool.mpr rfl) (Step.refl _)⟩ R.1.units
theorem op_lt_list {ds es : List (List Nat)} : Op2 Γ (n + 1) (compareOp .Lt) (.list (ds.map .str)) (.list (es.map .str)) (.bool (ltL ds es)) := fun A X s v u Q E R B hv hu k => by
  obtain ⟨a, vs, rfl, hL, hrv⟩ := rep_list.mp hv
  obtain ⟨b, us, rfl, hM, hru⟩ := rep_list.mp hu
  obtain ⟨⟨cls, dd, data, sl⟩, ho, hc, n, hd⟩ := hL.isList
  obtain ⟨⟨cls2, dd2, data2, sl2⟩, ho2, hc2, n2, hd2⟩ := hM.isList
  simp only at hc hd hc2 hd2
  subst hc hd hc2 hd2
  show wpAny _ _ (richCompare .Lt _ _) _ _ _
  exact richCompare_meets_room (op := .Lt) ⟨_, ho, rfl⟩ ⟨_, ho2, rfl⟩ F.slot_list_lt F.entry_list_lt (F.args_list_lt_2 _ _) (list_ltM a b vs us ds es n n2 dd dd2 sl sl2 hrv.strs hru.strs)
    ⟨ho, ho2, (fun x => nomatch x), k _ _ (rep_bool.mpr rfl) (Step.refl _)⟩ R.1.units

/-! ## lists together -/
theorem op_addl {ds es : List D} (h : ds.length + es.length ≤ 1000) : Op2 Γ n (binaryOp .Add) (.list ds) (.list es) (.list (ds ++ es)) := fun A X s v u Q E R B hv hu k => by
  obtain ⟨a, vs, rfl, hL, hrv⟩ := rep_list.mp hv
  obtain ⟨b, us, rfl, hM, hru⟩ := rep_list.mp hu
  obtain ⟨⟨cls, dd, data, sl⟩, ho, hc, n, hd⟩ := hL.isList
  obtain ⟨⟨cls2, dd2, data2, sl2⟩, ho2, hc2, n2, hd2⟩ := hM.isList
  simp only at hc hd hc2 hd2
  subst hc hd hc2 hd2
  have e : vs.toArray ++ us.toArray = (vs ++ us).toArray := by simp
  have l1 := hrv.len
  have l2 := hru.len
  refine concat_meets ⟨_, ho, rfl⟩ ⟨_, ho2, rfl⟩ noFill_list_add seq_list_add PySem.F.slot_list_add PySem.F.entry_list_add (PySem.F.args_list_add_2 _ _) (list_addW a b vs.toArray us.toArray n n2 dd dd2 sl sl2 (by rw [List.size_toArray, List.size_toArray]; unfold sizeLine; omega)) ⟨ho, ho2, ?_⟩
  rw [e]
  exact k _ _ (rep_newList B (hrv.append hru)) (Step.push (tk := s.toks))
/-! ## the text of a nested list of ints -/
end Mine

namespace Mine
variable {Γ : Cfg} {n : Nat} {env : Env} {ρ : List (Str × D)}

/-! ## the text of a table of small ints -/
noncomputable def tabD (rows : List (List Int)) : D := .list (rows.map fun r => .list (r.map .int))
noncomputable def tabP (rows : List (List Int)) : PyData := .list (rows.map fun r => .list (r.map .int))

theorem reads_ints {X} {h : Heap} : ∀ {ns : List Int} {vs : List Value}, RepL X h (ns.map D.int) vs → ReadsAll h vs (ns.map .int) []
  | [], _, x => by rw [List.map_nil, repL_nil] at x; subst x; exact .nil
  | i :: ns, vs, x => by
    rw [List.map_cons, repL_cons] at x
    obtain ⟨v, r, rfl, hv, hr⟩ := x
    obtain ⟨t, rfl⟩ := rep_int.mp hv
    exact .cons (as := []) (bs := []) (.int i t) (reads_ints hr)
theorem reads_rows {X} {h : Heap} : ∀ {rows : List (List Int)} {vs : List Value}, RepL X h (rows.map fun r => .list (r.map .int)) vs → ∃ as, ReadsAll h vs (rows.map fun r => .list (r.map .int)) as
  | [], _, x => by rw [List.map_nil, repL_nil] at x; subst x; exact ⟨[], .nil⟩
  | ns :: rows, vs, x => by
    rw [List.map_cons, repL_cons] at x
    obtain ⟨v, r, rfl, hv, hr⟩ := x
    obtain ⟨a, us, rfl, hl, hu⟩ := rep_list.mp hv
    obtain ⟨as, ih⟩ := reads_rows hr
    obtain ⟨o, n, ho, hc, _, hd⟩ := hl.obj
    exact ⟨_, .cons (.list ho hc hd (by simpa using reads_ints hu)) ih⟩

noncomputable def smallRows (rows : List (List Int)) : Prop := rows.length ≤ 100 ∧ ∀ r ∈ rows, r.length ≤ 100 ∧ ∀ i ∈ r, -1 ≤ i ∧ i ≤ 1
theorem small_cases {i : Int} (h : -1 ≤ i ∧ i ≤ 1) : i = -1 ∨ i = 0 ∨ i = 1 := by omega
theorem showable_ints : ∀ {r : List Int}, (∀ i ∈ r, -1 ≤ i ∧ i ≤ 1) → PyData.showableAll (r.map .int) = true
  | [], _ => rfl
  | i :: r, h => by
    have h1 := small_cases (h i (by simp))
    have h2 := showable_ints (r := r) fun j hj => h j (by simp [hj])
    simp only [List.map_cons, PyData.showableAll, Bool.and_eq_true]
    refine ⟨?_, h2⟩
    rcases h1 with rfl | rfl | rfl <;> decide +kernel
theorem hasDict_ints : ∀ (r : List Int), PyData.hasDictAll (r.map .int) = false
  | [] => rfl
  | i :: r => by simp [PyData.hasDictAll, PyData.hasDict, hasDict_ints r]
theorem hasDict_rows : ∀ (rows : List (List Int)), PyData.hasDictAll (rows.map fun r => .list (r.map .int)) = false
  | [] => rfl
  | i :: r => by simp [PyData.hasDictAll, PyData.hasDict, hasDict_ints, hasDict_rows r]
theorem showable_rows : ∀ {rows : List (List Int)}, (∀ r ∈ rows, r.length ≤ 100 ∧ ∀ i ∈ r, -1 ≤ i ∧ i ≤ 1) → PyData.showableAll (rows.map fun r => .list (r.map .int)) = true
  | [], _ => rfl
  | i :: r, h => by
    have h1 := showable_ints (h i (by simp)).2
    have h2 := showable_rows (rows := r) fun j hj => h j (by simp [hj])
    simp only [List.map_cons, PyData.showableAll, Bool.and_eq_true]
    exact ⟨h1, h2⟩
theorem short_ints : ∀ {r : List Int}, (∀ i ∈ r, -1 ≤ i ∧ i ≤ 1) → PyData.leavesShortAll 13 (r.map .int) = true
  | [], _ => rfl
  | i :: r, h => by
    have h1 := small_cases (h i (by simp))
    have h2 := short_ints (r := r) fun j hj => h j (by simp [hj])
    simp only [List.map_cons, PyData.leavesShortAll, Bool.and_eq_true]
    refine ⟨?_, h2⟩
    rcases h1 with rfl | rfl | rfl <;> decide +kernel
theorem short_rows : ∀ {rows : List (List Int)}, (∀ r ∈ rows, r.length ≤ 100 ∧ ∀ i ∈ r, -1 ≤ i ∧ i ≤ 1) → PyData.leavesShortAll 13 (rows.map fun r => .list (r.map .int)) = true
  | [], _ => rfl
  | i :: r, h => by
    have h1 := short_ints (h i (by simp)).2
    have h2 := short_rows (rows := r) fun j hj => h j (by simp [hj])
    simp only [List.map_cons, PyData.leavesShortAll, Bool.and_eq_true]
    exact ⟨h1, h2⟩
theorem weight_ints : ∀ {r : List Int}, (∀ i ∈ r, -1 ≤ i ∧ i ≤ 1) → PyData.weightAll (r.map .int) ≤ 2 * r.length
  | [], _ => by simp [PyData.weightAll]
  | i :: r, h => by
    have h1 := small_cases (h i (by simp))
    have h2 := weight_ints (r := r) fun j hj => h j (by simp [hj])
    have h3 : PyData.weight (.int i) ≤ 1 := by rcases h1 with rfl | rfl | rfl <;> decide +kernel
    simp only [List.map_cons, PyData.weightAll, List.length_cons]
    omega
theorem weight_rows : ∀ {rows : List (List Int)}, (∀ r ∈ rows, r.length ≤ 100 ∧ ∀ i ∈ r, -1 ≤ i ∧ i ≤ 1) → PyData.weightAll (rows.map fun r => .list (r.map .int)) ≤ 201 * rows.length
  | [], _ => by simp [PyData.weightAll]
  | i :: r, h => by
    have h1 := weight_ints (h i (by simp)).2
    have h0 := (h i (by simp)).1
    have h2 := weight_rows (rows := r) fun j hj => h j (by simp [hj])
    simp only [List.map_cons, PyData.weightAll, PyData.weight, List.length_cons]
    omega
theorem depth_ints : ∀ (r : List Int), PyData.depthAll (r.map .int) ≤ 1
  | [] => by simp [PyData.depthAll]
  | i :: r => by have := depth_ints r; simp only [List.map_cons, PyData.depthAll, PyData.depth]; omega
theorem depth_rows : ∀ (rows : List (List Int)), PyData.depthAll (rows.map fun r => .list (r.map .int)) ≤ 3
  | [] => by simp [PyData.depthAll]
  | i :: r => by have h1 := depth_ints i; have := depth_rows r; simp only [List.map_cons, PyData.depthAll, PyData.depth]; omega

noncomputable def tabS (rows : List (List Int)) : List Nat := (tabP rows).shown.cps.toList
theorem bi_strtab {rows : List (List Int)} (hs : smallRows rows) : Bi Γ (n + 1) (.type "str") [tabD rows] (.str (tabS rows)) := fun A X s vals Q E R B rv k => by
  obtain ⟨v, rfl, hv⟩ := repL1 (rv)
  obtain ⟨a, vs, rfl, hl, hr⟩ := rep_list.mp hv
  obtain ⟨as, ra⟩ := reads_rows hr
  obtain ⟨o, n, ho, hc, _, hd⟩ := hl.obj
  have r : Reads s.heap (.ref a) (tabP rows) (a :: as) := .list ho hc hd (by simpa using ra)
  have hu := R.1.2.2.1
  have hdep : (tabP rows).depth ≤ 4 := by have := depth_rows rows; simp only [tabP, PyData.depth]; omega
  have hcl : cLine = 9900 := rfl
  refine str_of_reads r (showable_rows hs.2) (fun h => ?_) R.1.2.2.2.2 (by omega) (fun _ _ e => e) (fun h' u tk hk => k _ _ (rep_str.mpr ⟨u, by simp [tabS, mkS]⟩) (Step.of_keeps hk))
    (PyData.shown_fits (B := 13) (by decide) (by decide) (short_rows hs.2) (by have := weight_rows hs.2; have := hs.1; simp only [tabP, PyData.weight]; omega))
  have : (tabP rows).hasDict = false := hasDict_rows rows
  rw [this] at h; cases h
theorem ev_type (K : Γ.Ok) {x : Str} {p pos e es ds d} {T : String} (hk : env.kindOf x = some .globalImplicit) (hm : Γ.mg x = none) (hv : bootBuiltins x = some (.type T)) (ha : Evs Γ n env ρ (e :: es) ds)
    (hc : Bi Γ n (.type T) ds d) (hpl : (backTo pos (starEach (e :: es) env)).any (·.1) = false := by rfl)
    (hd : (x == ("__debug__" : Str)) = false := by decide) (hn : x ≠ "__name__" := by decide) : Ev Γ n env ρ (.Call (.Name x p) (e :: es) [] pos) d := fun A X s Q E R S k => by
  refine wpAny_Call_NameR (wp_bi K S hk hm hv ?_ hd hn)
  refine PySem.callWith_type hpl (evs_args ha R S fun vs s₁ r₁ x₁ => hc A X s₁ _ _ E R (x₁.base S.base) (by simpa using r₁) fun v s₂ r₂ x₂ => k v s₂ r₂ (x₁.trans x₂))
end Mine

namespace Mine
variable {Γ : Cfg} {n : Nat} {env : Env} {ρ : List (Str × D)}

/-! ## one object changes -/
/-- an object that bears no code record -/
noncomputable def NotCode (o : Obj) : Prop := ∀ vs, o.data = .fields vs → ∀ q t, vs[1]? ≠ some (.str q t)

/-- all but the object at I stands -/
noncomputable def Upd (I : Addr) (s s' : Shared) : Prop := ∃ h' tk, s' = { s with heap := h', toks := tk } ∧ ∀ b o, b ≠ I → s.heap.get? b = some o → h'.get? b = some o
theorem Upd.at {I s s'} (u : Upd I s s') {b o} (hb : b ≠ I) (e : s.heap.get? b = some o) : s'.heap.get? b = some o := by
  obtain ⟨h', tk, rfl, k⟩ := u; exact k b o hb e
theorem Upd.same {I : Addr} {s : Shared} {h' : Heap} {tk : Nat} (hs : Heap.SameBut I s.heap h') : Upd I s { s with heap := h', toks := tk } :=
  ⟨h', tk, rfl, fun b _ hb e => (hs.2 b hb).trans e⟩
theorem Upd.ext {I : Addr} {s : Shared} {h' : Heap} {tk : Nat} (hs : Heap.ExtBut I s.heap h') : Upd I s { s with heap := h', toks := tk } :=
  ⟨h', tk, rfl, fun b o hb e => hs b o hb e⟩

theorem fresh_ne {X} {s : Shared} (B : Base Γ X s.heap) {a : Addr} (h : s.heap.get? a = none) : Γ.h.get? a = none ∧ a ≠ 86 ∧ a ≠ 103 := by
  have h1 : a ≠ 86 := by rintro rfl; obtain ⟨vs, e, _⟩ := B.t1; rw [h] at e; cases e
  have h2 : a ≠ 103 := by rintro rfl; obtain ⟨vs, e, _⟩ := B.t2; rw [h] at e; cases e
  refine ⟨?_, h1, h2⟩
  cases e : Γ.h.get? a with
  | none => rfl
  | some o => rw [B.old a o e h1 h2] at h; cases h
theorem fresh_back {X fl s s'} (x : Step Γ fl s s') (B : Base Γ X s.heap) {a : Addr} (h : s'.heap.get? a = none) : s.heap.get? a = none := by
  obtain ⟨_, h1, h2⟩ := fresh_ne (x.base B) h
  cases e : s.heap.get? a with
  | none => rfl
  | some o => obtain ⟨sl, e'⟩ := x.at e h1 h2; rw [h] at e'; cases e'

theorem TabAt.upd {P l c : Nat} {q : Str} {s s' : Shared} {I : Addr} (x : TabAt P l c q s.heap) (u : Upd I s s') (hP : P ≠ I) (hI : ∀ o, s.heap.get? I = some o → NotCode o) : TabAt P l c q s'.heap := by
  obtain ⟨vs, e, hv⟩ := x
  refine ⟨vs, u.at hP e, hv.imp id ?_⟩
  rintro ⟨c, e, c', o, us, t, e2, g, r, r2⟩
  refine ⟨c, e, c', o, us, t, e2, u.at ?_ g, r, r2⟩
  rintro rfl
  exact hI o g us r _ _ r2
theorem Base.upd {X} {s s' : Shared} {I : Addr} (B : Base Γ X s.heap) (u : Upd I s s') (hΓ : Γ.h.get? I = none ∧ I ≠ 86 ∧ I ≠ 103) (hI : ∀ o, s.heap.get? I = some o → NotCode o) (hX : I ∉ X) : Base Γ X s'.heap :=
  ⟨fun b o e h1 h2 => u.at (by rintro rfl; rw [hΓ.1] at e; cases e) (B.old b o e h1 h2), B.t1.upd u (Ne.symm hΓ.2.1) hI, B.t2.upd u (Ne.symm hΓ.2.2) hI,
    fun a ha => let ⟨o, e, r⟩ := B.priv a ha; ⟨o, u.at (by rintro rfl; exact hX ha) e, r⟩⟩
/-- a step, then a change of an object that was not there at the start -/
theorem Step.upd {Y fl s₀ s s' : _} {I : Addr} (x : Step Γ fl s₀ s) (B₀ : Base Γ Y s₀.heap) (hf : s₀.heap.get? I = none) (u : Upd I s s') (hI : ∀ o, s.heap.get? I = some o → NotCode o) : Step Γ fl s₀ s' where
  keep := fun b o e hb h1 h2 => u.at (by rintro rfl; rw [hf] at e; cases e) (x.keep b o e hb h1 h2)
  frm := fun b o e h1 h2 => by
    obtain ⟨sl, e'⟩ := x.frm b o e h1 h2
    exact ⟨sl, u.at (by rintro rfl; rw [hf] at e; cases e) e'⟩
  base := fun {X} BX => (x.base BX).upd u (fresh_ne B₀ hf) hI fun hm => by
    obtain ⟨o, e, _⟩ := BX.priv I hm
    rw [hf] at e; cases e
  gens := by obtain ⟨h', tk, rfl, _⟩ := u; exact x.gens
  os := by obtain ⟨h', tk, rfl, _⟩ := u; exact x.os
  drawn := by obtain ⟨h', tk, rfl, _⟩ := u; exact x.drawn

theorem notCode_seq {o : Obj} {xs n} (h : o.data = .seq xs n) : NotCode o := fun vs e => by rw [h] at e; cases e
theorem notCode_dict {o : Obj} {xs n} (h : o.data = .dict xs n) : NotCode o := fun vs e => by rw [h] at e; cases e
theorem notCode_cell {o : Obj} {v} (h : o.data = .cell v) : NotCode o := fun vs e => by rw [h] at e; cases e

/-! ## addresses laid aside -/
mutual
theorem Rep.priv {X : List Addr} {h : Heap} {Da : Addr} (hD : h.get? Da = none) : ∀ (d : D) (v : Value), Rep X h d v → Rep (Da :: X) h d v
  | .none, _, x => by simpa [Rep] using x
  | .typ _, _, x => by simpa [Rep] using x
  | .adr _, _, x => by simpa [Rep] using x
  | .bool _, _, x => by simpa [Rep] using x
  | .int _, _, x => by simpa [Rep] using x
  | .str _, _, x => by simpa [Rep] using x
  | .list l, v, x => by
    obtain ⟨a, vs, rfl, ⟨hl, hp⟩, hr⟩ := rep_list.mp x
    refine rep_list.mpr ⟨a, vs, rfl, ⟨hl, fun hm => ?_⟩, RepL.priv hD l vs hr⟩
    rcases List.mem_cons.mp hm with rfl | hm
    · obtain ⟨o, _, e, _⟩ := hl; rw [hD] at e; cases e
    · exact hp hm
  | .tup l, v, x => by
    obtain ⟨a, vs, rfl, ⟨hl, hp⟩, hr⟩ := rep_tup.mp x
    refine rep_tup.mpr ⟨a, vs, rfl, ⟨hl, fun hm => ?_⟩, RepL.priv hD l vs hr⟩
    rcases List.mem_cons.mp hm with rfl | hm
    · obtain ⟨o, e, _⟩ := hl; rw [hD] at e; cases e
    · exact hp hm
theorem RepL.priv {X : List Addr} {h : Heap} {Da : Addr} (hD : h.get? Da = none) : ∀ (l : List D) (vs : List Value), RepL X h l vs → RepL (Da :: X) h l vs
  | [], _, x => by simpa [RepL] using x
  | d :: ds, vs, x => by
    obtain ⟨v, r, rfl, h1, h2⟩ := repL_cons.mp x
    exact repL_cons.mpr ⟨v, r, rfl, Rep.priv hD d v h1, RepL.priv hD ds r h2⟩
end
mutual
theorem Rep.sub {X Y : List Addr} {h : Heap} (hs : ∀ a ∈ Y, a ∈ X) : ∀ (d : D) (v : Value), Rep X h d v → Rep Y h d v
  | .none, _, x => by simpa [Rep] using x
  | .typ _, _, x => by simpa [Rep] using x
  | .adr _, _, x => by simpa [Rep] using x
  | .bool _, _, x => by simpa [Rep] using x
  | .int _, _, x => by simpa [Rep] using x
  | .str _, _, x => by simpa [Rep] using x
  | .list l, v, x => by
    obtain ⟨a, vs, rfl, ⟨hl, hp⟩, hr⟩ := rep_list.mp x
    exact rep_list.mpr ⟨a, vs, rfl, ⟨hl, fun hm => hp (hs _ hm)⟩, RepL.sub hs l vs hr⟩
  | .tup l, v, x => by
    obtain ⟨a, vs, rfl, ⟨hl, hp⟩, hr⟩ := rep_tup.mp x
    exact rep_tup.mpr ⟨a, vs, rfl, ⟨hl, fun hm => hp (hs _ hm)⟩, RepL.sub hs l vs hr⟩
theorem RepL.sub {X Y : List Addr} {h : Heap} (hs : ∀ a ∈ Y, a ∈ X) : ∀ (l : List D) (vs : List Value), RepL X h l vs → RepL Y h l vs
  | [], _, x => by simpa [RepL] using x
  | d :: ds, vs, x => by
    obtain ⟨v, r, rfl, h1, h2⟩ := repL_cons.mp x
    exact repL_cons.mpr ⟨v, r, rfl, Rep.sub hs d v h1, RepL.sub hs ds r h2⟩
end
-- values that avoid the object at I stand over its change
mutual
theorem Rep.upd {X : List Addr} {I : Addr} {s s' : Shared} (u : Upd I s s') (hI : I ∈ X) : ∀ (d : D) (v : Value), Rep X s.heap d v → Rep X s'.heap d v
  | .none, _, x => by simpa [Rep] using x
  | .typ _, _, x => by simpa [Rep] using x
  | .adr _, _, x => by simpa [Rep] using x
  | .bool _, _, x => by simpa [Rep] using x
  | .int _, _, x => by simpa [Rep] using x
  | .str _, _, x => by simpa [Rep] using x
  | .list l, v, x => by
    obtain ⟨a, vs, rfl, ⟨⟨o, n, e, r⟩, hp⟩, hr⟩ := rep_list.mp x
    exact rep_list.mpr ⟨a, vs, rfl, ⟨⟨o, n, u.at (by rintro rfl; exact hp hI) e, r⟩, hp⟩, RepL.upd u hI l vs hr⟩
  | .tup l, v, x => by
    obtain ⟨a, vs, rfl, ⟨⟨o, e, r⟩, hp⟩, hr⟩ := rep_tup.mp x
    exact rep_tup.mpr ⟨a, vs, rfl, ⟨⟨o, u.at (by rintro rfl; exact hp hI) e, r⟩, hp⟩, RepL.upd u hI l vs hr⟩
theorem RepL.upd {X : List Addr} {I : Addr} {s s' : Shared} (u : Upd I s s') (hI : I ∈ X) : ∀ (l : List D) (vs : List Value), RepL X s.heap l vs → RepL X s'.heap l vs
  | [], _, x => by simpa [RepL] using x
  | d :: ds, vs, x => by
    obtain ⟨v, r, rfl, h1, h2⟩ := repL_cons.mp x
    exact repL_cons.mpr ⟨v, r, rfl, Rep.upd u hI d v h1, RepL.upd u hI ds r h2⟩
end
/-- values stand over the change of an object that is no list or tuple -/
theorem keepSeq_upd {I : Addr} {s s' : Shared} (u : Upd I s s') (hI : ∀ o, s.heap.get? I = some o → ∀ xs n, o.data ≠ .seq xs n) : KeepSeq s.heap s'.heap := fun b o e ⟨xs, n, hd⟩ =>
  ⟨o.slots, u.at (by rintro rfl; exact hI o e xs n hd) e⟩

theorem Base.aside {X} {h : Heap} (B : Base Γ X h) {Da : Addr} {o : Obj} (e : h.get? Da = some o) (hd : ∀ vs, o.data ≠ .fields vs) : Base Γ (Da :: X) h :=
  ⟨B.old, B.t1, B.t2, fun a ha => by
    rcases List.mem_cons.mp ha with rfl | ha
    · exact ⟨o, e, hd⟩
    · exact B.priv a ha⟩
theorem Base.sub {X Y} {h : Heap} (B : Base Γ X h) (hs : ∀ a ∈ Y, a ∈ X) : Base Γ Y h := ⟨B.old, B.t1, B.t2, fun a ha => B.priv a (hs a ha)⟩
theorem St.aside {X fl} {s₁ s : Shared} (S : St Γ X env ρ s₁) (x : Step Γ fl s₁ s) {Da : Addr} (hD : s₁.heap.get? Da = none) {o : Obj} (e : s.heap.get? Da = some o) (hd : ∀ vs, o.data ≠ .fields vs) : St Γ (Da :: X) env ρ s := by
  obtain ⟨m, hn, hv⟩ := S.vars
  have B := (x.base S.base).aside e hd
  refine ⟨B, S.glob, m, x.ns S.base hn, fun y d hy => ?_⟩
  obtain ⟨v, hr, hh⟩ := hv y d hy
  refine ⟨v, Rep.mono (x.keepSeq S.base) d v (Rep.priv hD d v hr), hh.imp id ?_⟩
  rintro ⟨hk, c, hc, hcell⟩
  exact ⟨hk, c, hc, x.cell S.base hcell⟩
theorem St.sub {X Y} {s : Shared} (S : St Γ X env ρ s) (hs : ∀ a ∈ Y, a ∈ X) : St Γ Y env ρ s := by
  obtain ⟨m, hn, hv⟩ := S.vars
  exact ⟨S.base.sub hs, S.glob, m, hn, fun y d hy => let ⟨v, hr, hh⟩ := hv y d hy; ⟨v, Rep.sub hs d v hr, hh⟩⟩

/-! ## iterators -/
structure Iter (Γ : Cfg) (n : Nat) (X : List Addr) (s₁ : Shared) (I : Addr) (ds : List D) (P : Nat → Shared → Prop) : Prop where
  fresh : s₁.heap.get? I = none
  there : ∀ j s, P j s → ∃ o vs, s.heap.get? I = some o ∧ o.data = .fields vs ∧ NotCode o
  keep : ∀ j s s', P j s → Step Γ [] s₁ s → Step Γ [] s₁ s' → (∀ o, s.heap.get? I = some o → s'.heap.get? I = some o) → P j s'
  next : ∀ A j s Q E d, Room n A → P j s → Step Γ [] s₁ s → ds[j]? = some d → (∀ v s', Rep X s₁.heap d v → P (j + 1) s' → Upd I s s' → Q (some v) s') → wpAny Γ.M A (pyNext (.ref I)) Q E s
  stop : ∀ A s Q E, Room n A → P ds.length s → Step Γ [] s₁ s → (∀ s', Upd I s s' → Q none s') → wpAny Γ.M A (pyNext (.ref I)) Q E s
  self : ∀ A j s Q E, P j s → Q (.ref I) s → wpAny Γ.M A (pyIter (.ref I)) Q E s

/-- an expression that is iterated over ds -/
noncomputable def EvI (Γ : Cfg) (n : Nat) (env : Env) (ρ : List (Str × D)) (e : Expr) (ds : List D) : Prop :=
  ∀ A X s Q E, Room n A → St Γ X env ρ s → (∀ x s₁, Step Γ [] s s₁ → (∀ Q' E', (∀ I P s₂, Iter Γ n X s₁ I ds P → P 0 s₂ → Step Γ [] s₁ s₂ → Q' (.ref I) s₂) → wpAny Γ.M A (pyIter x) Q' E' s₁) → Q x s₁) →
    wpAny Γ.M A (eval e env) Q E s

theorem listIter (h3 : 3 ≤ n) {X} {s₁ : Shared} (B : Base Γ X s₁.heap) {a : Addr} {vs : List Value} {ds : List D} (hl : LObj s₁.heap a vs.toArray) (hr : RepL X s₁.heap ds vs) (I : Addr) (hI : s₁.heap.get? I = none) :
    Iter Γ n X s₁ I ds (fun j s => s.heap.IsListIter I a j) where
  fresh := hI
  there := fun j s ⟨o, e, _, hd⟩ => ⟨o, _, e, hd, fun vs' h q t => by
    rw [hd] at h; cases h; simp⟩
  keep := fun j s s' ⟨o, e, r⟩ _ _ k => ⟨o, k o e, r⟩
  next := fun A j s Q E d R hp x hd k => by
    have hl' := (isList_mono (x.keepSeq B) hl).isList
    obtain ⟨v, hv, rv⟩ := hr.get hd
    refine wpAny_pyNext_list_item hp hl' (arr_get hv) fun h' hit hs => ?_
    exact k v _ rv hit (Upd.same (tk := s.toks) hs)
  stop := fun A s Q E R hp x k => by
    have hl' := (isList_mono (x.keepSeq B) hl).isList
    refine wpAny_pyNext_list_end (R.hand h3) hp hl' (by have := hr.len; simp [this]) fun h' he => k _ (Upd.ext (tk := s.toks) he)
  self := fun A j s Q E hp k => wpAny_pyIter_listiter hp k

theorem evi_list {e ds} (h : Ev Γ n env ρ e (.list ds)) (h3 : 3 ≤ n := by decide) : EvI Γ n env ρ e ds := fun A X s Q E R S k =>
  h A X s Q E R S fun v s₁ r₁ x₁ => k v s₁ x₁ fun Q' E' kk => by
    have B₁ := x₁.base S.base
    obtain ⟨a, vs, rfl, hl, hr⟩ := rep_list.mp r₁
    refine wpAny_pyIter_list hl.isList (kk _ _ _ (listIter h3 B₁ hl.obj hr _ (Heap.get?_none_of_le (Nat.le_refl _))) ⟨_, Heap.get?_push_size _ rfl, rfl, rfl⟩ (Step.push (tk := s₁.toks)))

theorem rangeIter (h3 : 3 ≤ n) {X} {s₁ : Shared} (a : Int) (m : Nat) (I : Addr) (hI : s₁.heap.get? I = none) :
    Iter Γ n X s₁ I ((List.range m).map fun i => D.int (a + (i : Nat))) (fun j s => IsRangeIter s.heap I (a + (j : Nat)) ((m : Int) - (j : Nat)) 1) where
  fresh := hI
  there := fun j s e => ⟨_, _, e, rfl, fun vs h q t => by cases h; simp [rawInt]⟩
  keep := fun j s s' e _ _ k => k _ e
  next := fun A j s Q E d R hp x hd k => by
    have hj : j < m := by
      have := (List.getElem?_eq_some_iff.mp hd).1; simpa using this
    have hd' : d = D.int (a + (j : Nat)) := by
      simp [hj] at hd; exact hd.symm
    subst hd'
    refine wpAny_pyNext_range_item hp (by omega) fun h' hit hs => ?_
    refine k _ _ (rep_int.mpr ⟨_, rfl⟩) ?_ (Upd.same hs)
    have e1 : a + (j : Nat) + 1 = a + ((j + 1 : Nat) : Int) := by push_cast; omega
    have e2 : (m : Int) - (j : Nat) - 1 = (m : Int) - ((j + 1 : Nat) : Int) := by push_cast; omega
    rw [e1, e2] at hit; exact hit
  stop := fun A s Q E R hp x k => by
    refine wpAny_pyNext_range_end (R.hand h3) hp (by simp) fun h' he => k _ (Upd.ext (tk := s.toks) he)
  self := fun A j s Q E hp k => wpAny_pyIter_rangeiter hp k

theorem evi_range1 (K : Γ.Ok) {p pos e} {m : Nat} (hk : env.kindOf "range" = some .globalImplicit) (hm : Γ.mg "range" = none) (he : Ev Γ n env ρ e (.int m)) (hz : m ≤ 1000000) (h3 : 3 ≤ n := by decide)
    (hs : starEach [e] env = [(false, eval e env)] := by rfl) : EvI Γ n env ρ (.Call (.Name "range" p) [e] [] pos) ((List.range m).map fun i => D.int (0 + (i : Nat))) := fun A X s Q E R S k => by
  refine wpAny_Call_NameR (wp_bi (v := .type "range") K S hk hm (by decide +kernel) ?_)
  refine PySem.callWith_type (by rw [hs]; rfl) (evs_args (.cons he hs .nil) R S fun vs s₁ r₁ x₁ => ?_)
  obtain ⟨v, rfl, hv⟩ := repL1 (r₁)
  obtain ⟨t, rfl⟩ := rep_int.mp hv
  refine call_range_1 (k _ _ (x₁.trans Step.push) fun Q' E' kk => ?_)
  have hsz : Builtin.Range.rangeSize 0 (m : Int) 1 = (m : Int) := by rw [rangeSize_one]; split <;> omega
  refine wpAny_pyIter_range (IsRange.new ..) (small_one (by omega) (by omega) (by omega) (by omega)) ?_
  rw [hsz]
  exact kk _ _ _ (rangeIter h3 0 m _ (Heap.get?_none_of_le (Nat.le_refl _))) (by show Heap.get? _ _ = _; rw [Heap.get?_push_size _ rfl]; simp) (Step.push (tk := s₁.toks + 1 + 1))
theorem evi_range2 (K : Γ.Ok) {p pos e e2} {a : Int} {m : Nat} (hk : env.kindOf "range" = some .globalImplicit) (hm : Γ.mg "range" = none) (he : Ev Γ n env ρ e (.int a)) (he2 : Ev Γ n env ρ e2 (.int (a + m))) (ha : 0 ≤ a ∧ a ≤ 1000000) (hz : m ≤ 1000000) (h3 : 3 ≤ n := by decide)
    (hs : starEach [e, e2] env = [(false, eval e env), (false, eval e2 env)] := by rfl) (hs2 : starEach [e2] env = [(false, eval e2 env)] := by rfl) :
    EvI Γ n env ρ (.Call (.Name "range" p) [e, e2] [] pos) ((List.range m).map fun i => D.int (a + (i : Nat))) := fun A X s Q E R S k => by
  refine wpAny_Call_NameR (wp_bi (v := .type "range") K S hk hm (by decide +kernel) ?_)
  refine PySem.callWith_type (by rw [hs]; rfl) (evs_args (.cons he (by rw [hs, hs2]) (.cons he2 hs2 .nil)) R S fun vs s₁ r₁ x₁ => ?_)
  obtain ⟨v, u, rfl, hv, hu⟩ := repL2 (r₁)
  obtain ⟨t, rfl⟩ := rep_int.mp hv
  obtain ⟨t', rfl⟩ := rep_int.mp hu
  refine call_range_2 (k _ _ (x₁.trans Step.push) fun Q' E' kk => ?_)
  have hsz : Builtin.Range.rangeSize a (a + m) 1 = (m : Int) := by rw [rangeSize_one]; split <;> omega
  refine wpAny_pyIter_range (IsRange.new ..) (small_one (by omega) (by omega) (by omega) (by omega)) ?_
  rw [hsz]
  exact kk _ _ _ (rangeIter h3 a m _ (Heap.get?_none_of_le (Nat.le_refl _))) (by show Heap.get? _ _ = _; rw [Heap.get?_push_size _ rfl]; simp) (Step.push (tk := s₁.toks + 1))
end Mine

namespace Mine
variable {Γ : Cfg} {n : Nat} {env : Env} {ρ : List (Str × D)}

/-! ## the frame of a comprehension -/
noncomputable def cρ (scope : Scope) (ρ : List (Str × D)) : List (Str × D) := ρ.filter fun p => scope.names.lookup p.1 == some .free
theorem cρ_look {scope : Scope} {x : Str} {d : D} : ∀ {ρ : List (Str × D)}, (cρ scope ρ).lookup x = some d → ρ.lookup x = some d ∧ scope.names.lookup x = some .free
  | [], h => by simp [cρ] at h
  | (y, e) :: r, h => by
    unfold cρ at h
    rw [List.filter_cons] at h
    split at h
    · rename_i hk
      rw [List.lookup_cons] at h ⊢
      split at h
      · rename_i hxy
        cases h
        have : x = y := by simpa using hxy
        subst this
        exact ⟨rfl, by simpa using hk⟩
      · exact cρ_look (ρ := r) h
    · rename_i hk
      have ih := cρ_look (ρ := r) h
      refine ⟨?_, ih.2⟩
      rw [List.lookup_cons]
      have : (x == y) = false := by
        rw [beq_eq_false_iff_ne]; rintro rfl
        rw [ih.2] at hk; exact hk rfl
      rw [this]; exact ih.1

noncomputable def freeOk (env : Env) (ρ : List (Str × D)) (scope : Scope) : Bool :=
  scope.names.all fun p => p.2 != .free || ((ρ.lookup p.1).isSome && (env.kindOf p.1 == some .cell || env.kindOf p.1 == some .free))

theorem closure_loop (env : Env) (ok : Str → Addr → Prop) (hok : ∀ y c, ok y c → env.cells.lookup y = some c) :
    ∀ (names : List (Str × NameKind)) (acc : List (Str × Addr)), (∀ p ∈ names, p.2 = .free → ∃ c, ok p.1 c) → (∀ p ∈ acc, env.cells.lookup p.1 = some p.2) →
    ∃ cl, (forIn names acc fun (x : Str × NameKind) (r : List (Str × Addr)) => (if (x.2 == .free) = true then do let a ← cellOf env x.1; pure (ForInStep.yield ((x.1, a) :: r)) else pure (ForInStep.yield r) : Sem (ForInStep (List (Str × Addr))))) = pure cl ∧
      (∀ p ∈ cl, env.cells.lookup p.1 = some p.2) ∧ (∀ p ∈ names, p.2 = .free → (cl.lookup p.1).isSome = true) ∧ (∀ y, (acc.lookup y).isSome = true → (cl.lookup y).isSome = true)
  | [], acc, _, ha => ⟨acc, rfl, ha, by simp, fun _ h => h⟩
  | (x, k) :: r, acc, hn, ha => by
    rw [List.forIn_cons]
    have hn' : ∀ p ∈ r, p.2 = .free → ∃ c, ok p.1 c := fun p hp => hn p (List.mem_cons_of_mem _ hp)
    by_cases hk : (k == .free) = true
    · obtain ⟨c, hc⟩ := hn (x, k) (by simp) (by simpa using hk)
      have e : cellOf env x = pure c := by unfold cellOf; rw [hok _ _ hc]
      obtain ⟨cl, h1, h2, h3, h4⟩ := closure_loop env ok hok r ((x, c) :: acc) hn' (fun p hp => by
        rcases List.mem_cons.mp hp with rfl | hp
        · exact hok _ _ hc
        · exact ha p hp)
      refine ⟨cl, ?_, h2, ?_, ?_⟩
      · simp only [hk, if_true, e]; exact h1
      · intro p hp hf
        rcases List.mem_cons.mp hp with rfl | hp
        · exact h4 _ (by simp)
        · exact h3 p hp hf
      · intro y hy
        refine h4 y ?_
        rw [List.lookup_cons]; split
        · rfl
        · exact hy
    · obtain ⟨cl, h1, h2, h3, h4⟩ := closure_loop env ok hok r acc hn' ha
      refine ⟨cl, ?_, h2, ?_, h4⟩
      · simp only [hk]; exact h1
      · intro p hp hf
        rcases List.mem_cons.mp hp with rfl | hp
        · simp only at hf; rw [hf] at hk; exact absurd rfl hk
        · exact h3 p hp hf

theorem lookup_mem {α : Type} : ∀ {l : List (Str × α)} {x : Str} {v : α}, l.lookup x = some v → (x, v) ∈ l := fun h => mem_of_lookup h

theorem closureFor_ok {X} {s : Shared} (S : St Γ X env ρ s) {scope : Scope} (hf : freeOk env ρ scope = true) :
    ∃ cl, closureFor scope env = pure cl ∧ (∀ y c, cl.lookup y = some c → env.cells.lookup y = some c) ∧ ∀ y, scope.names.lookup y = some .free → (cl.lookup y).isSome = true := by
  obtain ⟨m, hn, hv⟩ := S.vars
  obtain ⟨cl, h1, h2, h3, _⟩ := closure_loop env (fun y c => env.cells.lookup y = some c) (fun _ _ h => h) scope.names [] (fun p hp hk => by
    have := List.all_eq_true.mp hf p hp
    rw [hk] at this
    simp only [bne_self_eq_false, Bool.false_or, Bool.and_eq_true] at this
    obtain ⟨q1, q2⟩ := this
    obtain ⟨d, hd⟩ := Option.isSome_iff_exists.mp q1
    obtain ⟨v, _, hh⟩ := hv _ d hd
    rcases hh with ⟨hl, _⟩ | ⟨_, c, hc, _⟩
    · rw [hl] at q2; exact absurd q2 (by decide)
    · exact ⟨c, hc⟩) (by simp)
  refine ⟨cl, ?_, fun y c h => h2 _ (lookup_mem h), fun y hy => h3 _ (lookup_mem hy) rfl⟩
  unfold closureFor
  simpa using h1

theorem lookup_relabel {env : Env} {x : Str} : ∀ {names : List (Str × NameKind)},
    (names.map fun (n, k) => if (k == NameKind.free && env.scope.kind == .function && env.kindOf n == some .cell) then (n, NameKind.cell) else (n, k)).lookup x =
      match names.lookup x with
      | some k => some (if (k == NameKind.free && env.scope.kind == .function && env.kindOf x == some .cell) then .cell else k)
      | none => none
  | [] => rfl
  | (y, k) :: r => by
    have ih := @lookup_relabel env x r
    show List.lookup x ((if _ then _ else _) :: _) = _
    by_cases hxy : x = y
    · subst hxy
      have hb : (x == x) = true := beq_self_eq_true x
      rw [List.lookup_cons (a := x) (k := x) (b := k), hb]
      dsimp only
      split <;> (rw [List.lookup_cons, hb])
    · have hb : (x == y) = false := by simpa using hxy
      rw [List.lookup_cons (a := x) (k := y) (b := k), hb]
      dsimp only
      split <;> (rw [List.lookup_cons, hb]; exact ih)

theorem kind_local {scope : Scope} {cl C} {x : Str} {k} (h : scope.names.lookup x = some k) (hk : k ≠ .free) : (compEnvC scope cl C env).kindOf x = some k := by
  show List.lookup x (List.map _ scope.names) = _
  rw [lookup_relabel, h]
  have : (k == NameKind.free) = false := by simpa using hk
  simp [this]
theorem kind_free {scope : Scope} {cl C} {x : Str} (h : scope.names.lookup x = some .free) : (compEnvC scope cl C env).kindOf x = some .cell ∨ (compEnvC scope cl C env).kindOf x = some .free := by
  show List.lookup x (List.map _ scope.names) = _ ∨ List.lookup x (List.map _ scope.names) = _
  rw [lookup_relabel, h]
  dsimp only
  split <;> simp

/-- the cells of a comprehension's frame -/
structure CellsC (env : Env) (scope : Scope) (cl : List (Str × Addr)) : Prop where
  free : ∀ y c, scope.names.lookup y = some .free → env.cells.lookup y = some c → cl.lookup y = some c

/-- the names within a comprehension's turn -/
theorem St.comp {X} {s : Shared} {C : Addr} {scope : Scope} {cl : List (Str × Addr)} {m : Str → Option Value} {x : Str} {d : D} {v : Value} (S : St Γ X env ρ s) (hk : scope.kind = .function) (hn : s.heap.Ns C m)
    (hx : (scope.names.lookup x = some .local ∧ m x = some v) ∨ (scope.names.lookup x = some .cell ∧ ∃ c, cl.lookup x = some c ∧ s.heap.IsCell c (some v))) (hv : Rep X s.heap d v) (hc : CellsC env scope cl) (hf : freeOk env ρ scope = true) :
    St Γ X (compEnvC scope cl C env) ((x, d) :: cρ scope ρ) s := by
  obtain ⟨m₀, hn₀, hv₀⟩ := S.vars
  refine ⟨S.base, ⟨S.glob.1, S.glob.2.1, hk⟩, m, hn, fun y e hy => ?_⟩
  rw [List.lookup_cons] at hy
  split at hy
  · rename_i hxy
    cases hy
    have : y = x := by simpa using hxy
    subst this
    refine ⟨v, hv, ?_⟩
    rcases hx with ⟨h1, h2⟩ | ⟨h1, c, h2, h3⟩
    · exact .inl ⟨kind_local h1 (by decide), h2⟩
    · exact .inr ⟨.inl (kind_local h1 (by decide)), c, h2, h3⟩
  · obtain ⟨h1, h2⟩ := cρ_look hy
    obtain ⟨u, hu, hh⟩ := hv₀ y e h1
    refine ⟨u, hu, ?_⟩
    rcases hh with ⟨hl, _⟩ | ⟨_, c, hcc, hcell⟩
    · have := List.all_eq_true.mp hf _ (lookup_mem h2)
      simp only [bne_self_eq_false, Bool.false_or, Bool.and_eq_true] at this
      rw [hl] at this
      exact absurd this.2 (by decide)
    · exact .inr ⟨kind_free h2, c, hc.free y c h2 hcc, hcell⟩
end Mine

namespace Mine
variable {Γ : Cfg} {n : Nat} {env : Env} {ρ : List (Str × D)}

theorem wp_compEnv {M : Model} {A : Around} {E : Value → Shared → Prop} {s : Shared} {scope : Scope} {cl : List (Str × Addr)} {Q : Env → Shared → Prop}
    (h : Q (newEnv scope s.heap.objs.size env.globals (cellsFrom (s.heap.objs.size + 1) scope.names cl) env.qual none .none (some env) builtinsNs)
      { s with heap := pushCells (s.heap.push { cls := .type "dict", data := .dict #[] }) scope.names }) :
    wpAny M A (newFunctionEnv scope env.globals cl [] env.qual none .none (some env)) Q E s := by
  simp only [newFunctionEnv, Option.isSome_some, if_true]
  refine wpAny_bind (wpAny_alloc ?_)
  refine wpAny_bind (wpAny_layCells _ (fun name kind cells => by cases hkc : kind == NameKind.cell <;> simp [hkc]) _ _ _ _ ?_)
  rw [show ({ s with heap := s.heap.push { cls := .type "dict", data := .dict #[] } } : Shared).heap.objs.size = s.heap.objs.size + 1 from Heap.size_push ..]
  rw [List.forIn_nil]
  exact wpAny_bind (wpAny_pure (wpAny_pure h))

theorem cellsFrom_look : ∀ (names : List (Str × NameKind)) (k : Nat) (acc : List (Str × Addr)) (y : Str), (∀ p ∈ names, p.2 = .cell → p.1 ≠ y) → (cellsFrom k names acc).lookup y = acc.lookup y
  | [], _, _, _, _ => rfl
  | (z, kd) :: r, k, acc, y, h => by
    unfold cellsFrom
    split
    · rename_i hk
      rw [cellsFrom_look r _ _ y fun p hp => h p (List.mem_cons_of_mem _ hp), List.lookup_cons]
      have : (y == z) = false := by
        rw [beq_eq_false_iff_ne]; rintro rfl
        exact h (y, kd) (by simp) (by simpa using hk) rfl
      rw [this]
    · exact cellsFrom_look r _ _ y fun p hp => h p (List.mem_cons_of_mem _ hp)

/-- a cell that the frame itself makes -/
theorem cellsFrom_own : ∀ (names : List (Str × NameKind)) (h : Heap) (acc : List (Str × Addr)) (x : Str), (x, NameKind.cell) ∈ names →
    ∃ c, (cellsFrom h.objs.size names acc).lookup x = some c ∧ h.objs.size ≤ c ∧ (pushCells h names).IsCell c none
  | [], _, _, _, hm => absurd hm List.not_mem_nil
  | (z, kd) :: r, h, acc, x, hm => by
    unfold cellsFrom pushCells
    by_cases hr : (x, NameKind.cell) ∈ r
    · split
      · obtain ⟨c, h1, h2, h3⟩ := cellsFrom_own r (h.push { cls := .type "cell", data := .cell none }) ((z, h.objs.size) :: acc) x hr
        rw [Heap.size_push] at h1 h2
        exact ⟨c, h1, by omega, h3⟩
      · exact cellsFrom_own r h acc x hr
    · have hz : (x, NameKind.cell) = (z, kd) := by
        rcases List.mem_cons.mp hm with e | e
        · exact e
        · exact absurd e hr
      have hzx : x = z := (Prod.mk.inj hz).1
      have hkd : kd = .cell := (Prod.mk.inj hz).2.symm
      subst hkd
      subst hzx
      simp only [beq_self_eq_true, if_true]
      by_cases hother : ∀ p ∈ r, p.2 = .cell → p.1 ≠ x
      · refine ⟨h.objs.size, ?_, Nat.le_refl _, ?_⟩
        · rw [cellsFrom_look _ _ _ _ hother, List.lookup_cons, beq_self_eq_true]
        · exact (show (h.push { cls := .type "cell", data := .cell none }).IsCell h.objs.size none from ⟨_, Heap.get?_push_size _ rfl, rfl⟩).keeps (pushCells_keeps _ _)
      · exfalso
        apply hother
        intro p hp hk he
        exact hr (by rw [← he, ← hk]; exact hp)

/-- the tests of a comprehension -/
noncomputable def Tests (Γ : Cfg) (n : Nat) (env : Env) (ρ : List (Str × D)) (ifs : List Expr) (b : Bool) : Prop :=
  match ifs with
  | [] => b = true
  | [c] => Tr Γ n env ρ c b
  | _ => False

theorem Tests.run {ifs b} (h : Tests Γ n env ρ ifs b) {A X s E} {Q : Bool → Shared → Prop} (R : Room n A) (S : St Γ X env ρ s) (k : ∀ s', Step Γ [] s s' → Q b s') :
    wpAny Γ.M A (forIn ifs true fun c r => if r = true then do let ok ← isTrue c env (eval c env); pure (ForInStep.yield ok) else pure (ForInStep.yield r)) Q E s := by
  match ifs, h with
  | [], h => rw [Tests] at h; subst h; exact wpAny_tests_nil (k s (Step.refl _))
  | [c], h => exact wpAny_tests_one (h A X s _ E R S k)

theorem mem_take_succ {α : Type} {l : List α} {j : Nat} {d : α} (h : l[j]? = some d) : l.take (j + 1) = l.take j ++ [d] := by
  rw [List.take_add_one, h]; rfl

theorem obj_seq {h : Heap} {Da : Addr} {ys : Array Value} (x : h.PlainList Da ys) : ∃ o, h.get? Da = some o ∧ (∀ vs, o.data ≠ .fields vs) ∧ NotCode o := by
  obtain ⟨n, e⟩ := x
  exact ⟨_, e, (fun vs q => by cases q), notCode_seq (n := n) (xs := ys) rfl⟩
theorem obj_ns {h : Heap} {C : Addr} {m} (x : h.Ns C m) : ∃ o, h.get? C = some o ∧ (∀ xs n, o.data ≠ .seq xs n) ∧ NotCode o := by
  obtain ⟨o, es, ep, e, hd, _⟩ := x
  exact ⟨o, e, (fun xs n q => by rw [hd] at q; cases q), notCode_dict hd⟩
theorem obj_cell {h : Heap} {c : Addr} {v} (x : h.IsCell c v) : ∃ o, h.get? c = some o ∧ (∀ xs n, o.data ≠ .seq xs n) ∧ NotCode o := by
  obtain ⟨o, e, hd⟩ := x
  exact ⟨o, e, (fun xs n q => by rw [hd] at q; cases q), notCode_cell hd⟩
theorem ns_upd {I C : Addr} {s s' : Shared} {m} (u : Upd I s s') (h : C ≠ I) (n : s.heap.Ns C m) : s'.heap.Ns C m := by
  obtain ⟨o, es, ep, e, r⟩ := n
  exact ⟨o, es, ep, u.at h e, r⟩
theorem plain_upd {I C : Addr} {s s' : Shared} {m} (u : Upd I s s') (h : C ≠ I) (n : s.heap.PlainList C m) : s'.heap.PlainList C m := by
  obtain ⟨n, e⟩ := n
  exact ⟨n, u.at h e⟩
theorem cell_upd {I C : Addr} {s s' : Shared} {m} (u : Upd I s s') (h : C ≠ I) (n : s.heap.IsCell C m) : s'.heap.IsCell C m := by
  obtain ⟨o, e, r⟩ := n
  exact ⟨o, u.at h e, r⟩

theorem wp_compLoop {X : List Addr} {A : Around} {R : Result → Shared → Prop} {s₁ s : Shared} {elt iter : Expr} {x : Str} {px : Pos} {ifs : List Expr} {scope : Scope} {pos : Pos} {I Da C : Addr} {cl : List (Str × Addr)} {ds : List D} {P : Nat → Shared → Prop} {m : Str → Option Value}
    (p : D → Bool) (f : D → D) (RA : Room n A) (S₁ : St Γ X env ρ s₁) (x₁ : Step Γ [] s₁ s) (it : Iter Γ n X s₁ I ds P) (hP : P 0 s) (hk : scope.kind = .function) (hf : freeOk env ρ scope = true)
    (hD : s.heap.PlainList Da #[]) (hDf : s₁.heap.get? Da = none) (hCf : s₁.heap.get? C = none) (hN : s.heap.Ns C m) (hID : I ≠ Da) (hIC : I ≠ C) (hCc : CellsC env scope cl)
    (hx : scope.names.lookup x = some .local ∨ (scope.names.lookup x = some .cell ∧ ∃ c, cl.lookup x = some c ∧ s₁.heap.get? c = none ∧ s.heap.IsCell c none ∧ I ≠ c))
    (ht : ∀ d ∈ ds, Tests Γ n (compEnvC scope cl C env) ((x, d) :: cρ scope ρ) ifs (p d))
    (he : ∀ d ∈ ds, p d = true → Ev Γ n (compEnvC scope cl C env) ((x, d) :: cρ scope ρ) elt (f d))
    (hsz : ds.length ≤ 1000)
    (hR : ∀ s' m' ys, Step Γ [] s₁ s' → s'.heap.PlainList Da ys → RepL (Da :: X) s'.heap ((ds.filter p).map f) ys.toList → s'.heap.Ns C m' → R (.ok .next) s') :
    codeAny Γ.M A (.compLoop (.ListComp elt [⟨.Name x px, iter, ifs, 0⟩] scope pos) 0 (.ref I) (.ref Da) (compEnvC scope cl C env)) R s := by
  have B₁ := S₁.base
  refine codeAny_compLoop_tests
    (fun k s' => ∃ j m' ys, j ≤ ds.length ∧ k = ds.length + 1 - j ∧ P j s' ∧ Step Γ [] s₁ s' ∧ s'.heap.PlainList Da ys ∧ RepL (Da :: X) s'.heap (((ds.take j).filter p).map f) ys.toList ∧ s'.heap.Ns C m' ∧
      (scope.names.lookup x = some .local ∨ (scope.names.lookup x = some .cell ∧ ∃ c, cl.lookup x = some c ∧ s₁.heap.get? c = none ∧ (∃ v, s'.heap.IsCell c v) ∧ I ≠ c))) ?_ (ds.length + 1)
    ⟨0, m, #[], Nat.zero_le _, rfl, hP, x₁, hD, by simpa using repL_nil.mpr rfl, hN, hx.imp id fun ⟨a, c, b1, b2, b3, b4⟩ => ⟨a, c, b1, b2, ⟨_, b3⟩, b4⟩⟩
  intro k s' hI
  refine via fun G ret => ?_
  obtain ⟨j, m', ys, hj, rfl, hP', xs, hD', hr, hN', hx'⟩ := hI
  have hCD : C ≠ Da := by
    rintro rfl
    obtain ⟨o, es, ep, e1, e2, _⟩ := hN'
    obtain ⟨n', e3⟩ := hD'
    rw [e1] at e3; cases e3; cases e2
  obtain ⟨oI, vI, hoI, hdI, hIc⟩ := it.there _ _ hP'
  have hIs : ∀ o, s'.heap.get? I = some o → ∀ xs n, o.data ≠ .seq xs n := fun o e xs n q => by
    rw [hoI] at e; cases e; rw [hdI] at q; cases q
  have hIn : ∀ o, s'.heap.get? I = some o → NotCode o := fun o e => by rw [hoI] at e; cases e; exact hIc
  cases hd : ds[j]? with
  | none =>
    have hjl : j = ds.length := Nat.le_antisymm hj (List.getElem?_eq_none_iff.mp hd)
    subst hjl
    refine ret (it.stop A s' _ _ RA hP' xs fun s'' u => ?_)
    have xs' : Step Γ [] s₁ s'' := xs.upd B₁ it.fresh u hIn
    refine hR s'' m' ys xs' (plain_upd u (Ne.symm hID) hD') ?_ (ns_upd u (Ne.symm hIC) hN')
    rw [List.take_of_length_le (Nat.le_refl _)] at hr
    exact RepL.mono (keepSeq_upd u hIs) _ _ hr
  | some d =>
    have hjl : j < ds.length := (List.getElem?_eq_some_iff.mp hd).1
    have hmem : d ∈ ds := List.mem_of_getElem? hd
    refine ret (it.next A j s' _ _ d RA hP' xs hd fun v s₂ rv hP₂ u => ?_)
    clear ret
    have xs₂ : Step Γ [] s₁ s₂ := xs.upd B₁ it.fresh u hIn
    have hD₂ := plain_upd u (Ne.symm hID) hD'
    have hN₂ := ns_upd u (Ne.symm hIC) hN'
    have hr₂ := RepL.mono (keepSeq_upd u hIs) _ _ hr
    have hx₂ : scope.names.lookup x = some .local ∨ (scope.names.lookup x = some .cell ∧ ∃ c, cl.lookup x = some c ∧ s₁.heap.get? c = none ∧ (∃ v, s₂.heap.IsCell c v) ∧ I ≠ c) :=
      hx'.imp id fun ⟨a, c, b1, b2, ⟨v, b3⟩, b4⟩ => ⟨a, c, b1, b2, ⟨v, cell_upd u (Ne.symm b4) b3⟩, b4⟩
    clear hD' hN' hr hx' hIs hIn hP'
    -- the name is bound
    have bind : ∀ s₃ m₃, Step Γ [] s₁ s₃ → P (j + 1) s₃ → s₃.heap.PlainList Da ys → RepL (Da :: X) s₃.heap (((ds.take j).filter p).map f) ys.toList → s₃.heap.Ns C m₃ →
        ((scope.names.lookup x = some .local ∧ m₃ x = some v) ∨ (scope.names.lookup x = some .cell ∧ ∃ c, cl.lookup x = some c ∧ s₁.heap.get? c = none ∧ s₃.heap.IsCell c (some v) ∧ I ≠ c)) →
        wpAny Γ.M A (forIn ifs true fun c r => if r = true then do let ok ← isTrue c (compEnvC scope cl C env) (eval c (compEnvC scope cl C env)); pure (ForInStep.yield ok) else pure (ForInStep.yield r)) (fun ok s₃ =>
            if ok = true then wpAny Γ.M A (eval elt (compEnvC scope cl C env)) (fun x_1 s₄ =>
              wpAny Γ.M A (call (.builtin "list.append") [.ref Da, x_1]) (fun _ s₅ => ∃ m, m < ds.length + 1 - j ∧ ∃ j m' ys, j ≤ ds.length ∧ m = ds.length + 1 - j ∧ P j s₅ ∧ Step Γ [] s₁ s₅ ∧ s₅.heap.PlainList Da ys ∧ RepL (Da :: X) s₅.heap (((ds.take j).filter p).map f) ys.toList ∧ s₅.heap.Ns C m' ∧
      (scope.names.lookup x = some .local ∨ (scope.names.lookup x = some .cell ∧ ∃ c, cl.lookup x = some c ∧ s₁.heap.get? c = none ∧ (∃ v, s₅.heap.IsCell c v) ∧ I ≠ c))) (notedBy Γ.M A (compEnvC scope cl C env) fun e s' => R (.error e) s') s₄) (notedBy Γ.M A (compEnvC scope cl C env) fun e s' => R (.error e) s') s₃
            else ∃ m, m < ds.length + 1 - j ∧ ∃ j m' ys, j ≤ ds.length ∧ m = ds.length + 1 - j ∧ P j s₃ ∧ Step Γ [] s₁ s₃ ∧ s₃.heap.PlainList Da ys ∧ RepL (Da :: X) s₃.heap (((ds.take j).filter p).map f) ys.toList ∧ s₃.heap.Ns C m' ∧
      (scope.names.lookup x = some .local ∨ (scope.names.lookup x = some .cell ∧ ∃ c, cl.lookup x = some c ∧ s₁.heap.get? c = none ∧ (∃ v, s₃.heap.IsCell c v) ∧ I ≠ c))) (notedBy Γ.M A (compEnvC scope cl C env) fun e s' => R (.error e) s') s₃ := by
      intro s₃ m₃ x₃ hP₃ hD₃ hr₃ hN₃ hx₃
      have Sc : ∀ s₄, Step Γ [] s₃ s₄ → St Γ (Da :: X) (compEnvC scope cl C env) ((x, d) :: cρ scope ρ) s₄ := fun s₄ x₄ => by
        obtain ⟨o, eo, ho, _⟩ := obj_seq hD₃
        have S₃ := S₁.aside x₃ hDf eo ho
        have rd : Rep (Da :: X) s₃.heap d v := Rep.mono (x₃.keepSeq B₁) d v (Rep.priv hDf d v rv)
        exact (S₃.comp hk hN₃ (hx₃.imp id fun ⟨a, c, b1, _, b3, _⟩ => ⟨a, c, b1, b3⟩) rd hCc hf).step x₄
      have B₃ := (Sc s₃ (Step.refl _)).base
      refine (ht d hmem).run RA (Sc s₃ (Step.refl _)) fun s₄ x₄ => ?_
      have keepAll : ∀ s₅, Step Γ [] s₃ s₅ → P (j + 1) s₅ ∧ s₅.heap.PlainList Da ys ∧ RepL (Da :: X) s₅.heap (((ds.take j).filter p).map f) ys.toList ∧ s₅.heap.Ns C m₃ ∧
          ((scope.names.lookup x = some .local) ∨ (scope.names.lookup x = some .cell ∧ ∃ c, cl.lookup x = some c ∧ s₁.heap.get? c = none ∧ (∃ v, s₅.heap.IsCell c v) ∧ I ≠ c)) := fun s₅ x₅ => by
        obtain ⟨n', eD⟩ := hD₃
        obtain ⟨oi, vi, hoi, hdi, _⟩ := it.there _ _ hP₃
        refine ⟨it.keep _ _ _ hP₃ x₃ (x₃.trans x₅) fun o e => ?_, ?_, x₅.repL B₃ hr₃, x₅.ns B₃ hN₃, ?_⟩
        · obtain ⟨_, g1, g2⟩ := fresh_ne B₁ it.fresh
          exact x₅.keep I o e (by rw [hoi] at e; cases e; intro es n h; rw [hdi] at h; cases h) g1 g2
        · obtain ⟨_, g1, g2⟩ := fresh_ne B₁ hDf
          exact ⟨n', x₅.keep Da _ eD (by intro es n h; cases h) g1 g2⟩
        · exact hx₃.imp (fun h => h.1) fun ⟨a, c, b1, b2, b3, b4⟩ => ⟨a, c, b1, b2, ⟨_, x₅.cell B₃ b3⟩, b4⟩
      cases hp : p d with
      | false =>
        rw [if_neg (by decide)]
        obtain ⟨k1, k2, k3, k4, k5⟩ := keepAll s₄ x₄
        refine ⟨ds.length + 1 - (j + 1), turn_lt hjl, j + 1, m₃, ys, hjl, rfl, k1, x₃.trans x₄, k2, ?_, k4, k5⟩
        rw [mem_take_succ hd, List.filter_append, List.map_append]
        simpa [hp] using k3
      | true =>
        rw [if_pos rfl]
        refine he d hmem hp A (Da :: X) s₄ _ _ RA (Sc s₄ x₄) fun y s₅ ry x₅ => ?_
        obtain ⟨k1, k2, k3, k4, k5⟩ := keepAll s₅ (x₄.trans x₅)
        have hlen := k3.len
        refine wpAny_list_append_plain k2 (fun h₆ hl₆ hs₆ => ?_) (size_fit hlen (by rw [List.length_map]; exact Nat.le_trans (List.length_filter_le p _) (Nat.le_trans (by rw [List.length_take]; exact Nat.min_le_right _ _) hsz)))
        obtain ⟨oD, eoD, _, hDc⟩ := obj_seq k2
        have u₆ : Upd Da s₅ { s₅ with heap := h₆ } := Upd.same (tk := s₅.toks) hs₆
        have xs₅ := (x₃.trans (x₄.trans x₅))
        have xs₆ : Step Γ [] s₁ { s₅ with heap := h₆ } := xs₅.upd B₁ hDf u₆ fun o e => by rw [eoD] at e; cases e; exact hDc
        refine ⟨ds.length + 1 - (j + 1), turn_lt hjl, j + 1, m₃, ys.push y, hjl, rfl, it.keep _ _ _ k1 xs₅ xs₆ (fun o e => u₆.at hID e), xs₆, hl₆, ?_, ns_upd u₆ hCD k4, ?_⟩
        · rw [mem_take_succ hd, List.filter_append, List.map_append]
          have hin : Da ∈ Da :: X := List.mem_cons_self
          have := (RepL.upd u₆ hin _ _ k3).append (repL_cons.mpr ⟨y, [], rfl, Rep.upd u₆ hin _ _ ry, repL_nil.mpr rfl⟩)
          simpa [hp] using this
        · refine k5.imp id fun ⟨a, c, b1, b2, ⟨v', b3⟩, b4⟩ => ⟨a, c, b1, b2, ⟨v', cell_upd u₆ ?_ b3⟩, b4⟩
          rintro rfl
          obtain ⟨o, e, hdc⟩ := b3
          obtain ⟨n', e'⟩ := k2
          rw [e] at e'; cases e'; cases hdc
    refine via fun G ret => ?_
    rcases hx₂ with hl | ⟨hcell, c, b1, b2, ⟨v₀, b3⟩, b4⟩
    · obtain ⟨oC, eC, hCs, hCn⟩ := obj_ns hN₂
      refine ret (wpAny_assign_Name (wpAny_storeName_local (kind_local hl (by decide)) hN₂ (fun h₃ hn₃ hs₃ => ?_) (by show (scope.kind == .class || (scope.kind == .module && _)) = false; rw [hk]; rfl)))
      clear ret
      have u₃ : Upd C s₂ { s₂ with heap := h₃, toks := s₂.toks + 1 } := Upd.same hs₃
      have x₃ : Step Γ [] s₁ { s₂ with heap := h₃, toks := s₂.toks + 1 } := xs₂.upd B₁ hCf u₃ fun o e => by rw [eC] at e; cases e; exact hCn
      exact bind _ _ x₃ (it.keep _ _ _ hP₂ xs₂ x₃ fun o e => u₃.at hIC e) (plain_upd u₃ (Ne.symm hCD) hD₂) (RepL.mono (keepSeq_upd u₃ fun o e => by rw [eC] at e; cases e; exact hCs) _ _ hr₂) hn₃ (.inl ⟨hl, by simp⟩)
    · obtain ⟨oC, eC, hCs, hCn⟩ := obj_cell b3
      refine ret (wpAny_assign_Name (wpAny_storeName_cell hk (kind_local hcell (by decide)) b1 b3 fun h₃ hc₃ hs₃ => ?_))
      clear ret
      have u₃ : Upd c s₂ { s₂ with heap := h₃ } := Upd.same (tk := s₂.toks) hs₃
      have x₃ : Step Γ [] s₁ { s₂ with heap := h₃ } := xs₂.upd B₁ b2 u₃ fun o e => by rw [eC] at e; cases e; exact hCn
      have hcC : C ≠ c := by
        rintro rfl
        obtain ⟨o, es, ep, e1, e2, _⟩ := hN₂
        obtain ⟨o', e3, e4⟩ := b3
        rw [e1] at e3; cases e3; rw [e2] at e4; cases e4
      have hcD : Da ≠ c := by
        rintro rfl
        obtain ⟨n', e1⟩ := hD₂
        obtain ⟨o', e3, e4⟩ := b3
        rw [e1] at e3; cases e3; cases e4
      exact bind _ _ x₃ (it.keep _ _ _ hP₂ xs₂ x₃ fun o e => u₃.at b4 e) (plain_upd u₃ hcD hD₂) (RepL.mono (keepSeq_upd u₃ fun o e => by rw [eC] at e; cases e; exact hCs) _ _ hr₂) (ns_upd u₃ hcC hN₂) (.inr ⟨hcell, c, b1, b2, hc₃, b4⟩)
end Mine

namespace Mine
variable {Γ : Cfg} {n : Nat} {env : Env} {ρ : List (Str × D)}

theorem lookup_isSome_mem {α : Type} {l : List (Str × α)} {x : Str} (h : (l.lookup x).isSome = true) : ∃ v, l.lookup x = some v := Option.isSome_iff_exists.mp h

/-- the way of a comprehension, to the point where its list is made -/
theorem wp_comp {X : List Addr} {A : Around} {s : Shared} {E : Value → Shared → Prop} {Q : Value → Shared → Prop} {elt iter : Expr} {x : Str} {px : Pos} {ifs : List Expr} {scope : Scope} {pos : Pos} {ds : List D} {use : Option (Value → Sem Unit)}
    (p : D → Bool) (f : D → D) (R : Room n A) (S : St Γ X env ρ s)
    (hi : EvI Γ n env ρ iter ds) (hk : scope.kind = .function) (hf : freeOk env ρ scope = true)
    (hnames : ∀ y ∈ scope.names, y.2 = .local → scope.names.lookup y.1 = some .local)
    (hx : scope.names.lookup x = some .local ∨ ((x, NameKind.cell) ∈ scope.names ∧ scope.names.lookup x = some .cell))
    (hcell : ∀ y ∈ scope.names, y.2 = .cell → y.1 = x)
    (ht : ∀ C cl, ∀ d ∈ ds, Tests Γ n (compEnvC scope cl C env) ((x, d) :: cρ scope ρ) ifs (p d))
    (he : ∀ C cl, ∀ d ∈ ds, p d = true → Ev Γ n (compEnvC scope cl C env) ((x, d) :: cρ scope ρ) elt (f d))
    (hsz : ds.length ≤ 1000)
    (hs : ∀ x, foldedSetIterable iter env x = pure x)
    (k : ∀ Da C s' m' ys, s.heap.get? Da = none → s.heap.get? C = none → Da ≠ C → Step Γ [] s s' → s'.heap.PlainList Da ys → RepL (Da :: X) s'.heap ((ds.filter p).map f) ys.toList → s'.heap.Ns C m' →
      compPost Γ.M A E use Q (.ref Da) C (.ok .next) s') :
    wpAny Γ.M A (comprehension (.ListComp elt [⟨.Name x px, iter, ifs, 0⟩] scope pos) scope env (firstIterPos [⟨.Name x px, iter, ifs, 0⟩] pos) (newList []) false (eval iter env) use) Q E s := by
  obtain ⟨cl₀, hclos, hsub, hfr⟩ := closureFor_ok S hf
  refine wpAny_comprehension_free rfl hs hclos hk hnames (hi A X s _ E R S fun xv s₁ x₁ kk => kk _ _ fun I P s₂ it hP x₂ => ?_)
  have S₁ := S.step x₁
  have B₂ := x₂.base S₁.base
  refine wpAny_newObj_type (wp_compEnv ?_)
  dsimp only
  obtain ⟨oI, vI, hoI, _, _⟩ := it.there _ _ hP
  have hIlt := Heap.lt_size hoI
  generalize hH : s₂.heap.push { cls := .type "list", dict := none, data := .seq ([] : List Value).toArray } = H
  have hC : H.objs.size = s₂.heap.objs.size + 1 := by rw [← hH, Heap.size_push]
  have hCle : s₂.heap.objs.size ≤ H.objs.size := by rw [hC]; exact Nat.le_succ _
  have up1 : ∀ b o, s₂.heap.get? b = some o → H.get? b = some o := fun b o e => hH ▸ Heap.get?_push_of_some _ e
  have up2 : ∀ b o, H.get? b = some o → (pushCells (H.push { cls := .type "dict", data := .dict #[] }) scope.names).get? b = some o := fun b o e => pushCells_keeps _ _ b o (Heap.get?_push_of_some _ e)
  have x₃ : Step Γ [] s₂ { s₂ with heap := pushCells (H.push { cls := .type "dict", data := .dict #[] }) scope.names } := Step.of_keeps (tk := s₂.toks) fun b o e => up2 b o (up1 b o e)
  have xx := x₂.trans x₃
  have none₂ : ∀ a, s₂.heap.objs.size ≤ a → s₂.heap.get? a = none := fun a ha => Heap.get?_none_of_le ha
  have fr₁ : ∀ a, s₂.heap.objs.size ≤ a → s₁.heap.get? a = none := fun a ha => fresh_back x₂ S₁.base (none₂ a ha)
  have fr₀ : ∀ a, s₂.heap.objs.size ≤ a → s.heap.get? a = none := fun a ha => fresh_back x₁ S.base (fr₁ a ha)
  have hDl : (pushCells (H.push { cls := .type "dict", data := .dict #[] }) scope.names).PlainList s₂.heap.objs.size #[] :=
    ⟨0, up2 _ _ (hH ▸ Heap.get?_push_size _ rfl)⟩
  have hNs : (pushCells (H.push { cls := .type "dict", data := .dict #[] }) scope.names).Ns H.objs.size (fun _ => none) := (Heap.Ns.new H (.type "dict")).keeps (pushCells_keeps _ _)
  have hcl : CellsC env scope (cellsFrom (H.objs.size + 1) scope.names cl₀) := ⟨fun y c hy hc => by
    have hne : ∀ p ∈ scope.names, p.2 = .cell → p.1 ≠ y := fun p hp hpk e => by
      have h1 := hcell p hp hpk
      subst e
      rcases hx with hx | ⟨_, hx⟩ <;> (rw [h1, hx] at hy; cases hy)
    rw [cellsFrom_look _ _ _ _ hne]
    obtain ⟨c', hc'⟩ := lookup_isSome_mem (hfr y hy)
    have := hsub y c' hc'
    rw [hc] at this; cases this; exact hc'⟩
  have hxc : scope.names.lookup x = some .local ∨ (scope.names.lookup x = some .cell ∧ ∃ c, (cellsFrom (H.objs.size + 1) scope.names cl₀).lookup x = some c ∧ s₁.heap.get? c = none ∧
      (pushCells (H.push { cls := .type "dict", data := .dict #[] }) scope.names).IsCell c none ∧ I ≠ c) := hx.imp id fun ⟨hm, hl⟩ => by
    obtain ⟨c, h1, h2, h3⟩ := cellsFrom_own scope.names (H.push { cls := .type "dict", data := .dict #[] }) cl₀ x hm
    rw [Heap.size_push] at h1 h2
    have h4 : s₂.heap.objs.size ≤ c := Nat.le_trans (by rw [hC]; exact Nat.le_succ_of_le (Nat.le_succ _)) h2
    exact ⟨hl, c, h1, fr₁ c h4, h3, Nat.ne_of_lt (Nat.lt_of_lt_of_le hIlt h4)⟩
  have loop : codeAny Γ.M A (.compLoop (.ListComp elt [⟨.Name x px, iter, ifs, 0⟩] scope pos) 0 (.ref I) (.ref s₂.heap.objs.size) (compEnvC scope (cellsFrom (H.objs.size + 1) scope.names cl₀) H.objs.size env))
      (compPost Γ.M A E use Q (.ref s₂.heap.objs.size) H.objs.size) { s₂ with heap := pushCells (H.push { cls := .type "dict", data := .dict #[] }) scope.names } :=
    wp_compLoop p f R S₁ xx it (it.keep _ _ _ hP x₂ xx fun o e => up2 _ _ (up1 _ _ e)) hk hf hDl (fr₁ _ (Nat.le_refl _)) (fr₁ _ hCle) hNs (Nat.ne_of_lt hIlt) (Nat.ne_of_lt (Nat.lt_of_lt_of_le hIlt hCle)) hcl hxc (ht _ _) (he _ _) hsz
      fun s' m' ys xs hD hr hN => k _ _ s' m' ys (fr₀ _ (Nat.le_refl _)) (fr₀ _ hCle) (Nat.ne_of_lt (by rw [hC]; exact Nat.lt_succ_self _)) (x₁.trans xs) hD hr hN
  exact codeAny_compStart_list loop (it.self A 0 _ _ _ (it.keep _ _ _ hP x₂ xx fun o e => up2 _ _ (up1 _ _ e)) loop)

theorem plain_LO {X : List Addr} {h : Heap} {Da : Addr} {ys : Array Value} (x : h.PlainList Da ys) (hD : Da ∉ X) : LO X h Da ys := ⟨let ⟨n, e⟩ := x; ⟨_, n, e, rfl, rfl, rfl⟩, hD⟩

theorem ev_comp {elt iter : Expr} {x : Str} {px : Pos} {ifs : List Expr} {scope : Scope} {pos : Pos} {ds : List D} (p : D → Bool) (f : D → D)
    (hi : EvI Γ n env ρ iter ds) (hk : scope.kind = .function) (hf : freeOk env ρ scope = true)
    (hnames : ∀ y ∈ scope.names, y.2 = .local → scope.names.lookup y.1 = some .local)
    (hx : scope.names.lookup x = some .local ∨ ((x, NameKind.cell) ∈ scope.names ∧ scope.names.lookup x = some .cell))
    (hcell : ∀ y ∈ scope.names, y.2 = .cell → y.1 = x)
    (ht : ∀ C cl, ∀ d ∈ ds, Tests Γ n (compEnvC scope cl C env) ((x, d) :: cρ scope ρ) ifs (p d))
    (he : ∀ C cl, ∀ d ∈ ds, p d = true → Ev Γ n (compEnvC scope cl C env) ((x, d) :: cρ scope ρ) elt (f d))
    (hsz : ds.length ≤ 1000)
    (hs : ∀ x, foldedSetIterable iter env x = pure x := by intro _; rfl) :
    Ev Γ n env ρ (.ListComp elt [⟨.Name x px, iter, ifs, 0⟩] scope pos) (.list ((ds.filter p).map f)) := fun A X s Q E R S k => by
  rw [eval_ListComp]
  refine wp_comp (use := none) p f R S hi hk hf hnames hx hcell ht he hsz hs fun Da C s' m' ys hD hC hDC xs hDl hr hN => ?_
  refine ⟨m', hN, fun h' hs' => ?_⟩
  have u : Upd C s' { s' with heap := h' } := Upd.same (tk := s'.toks) hs'
  obtain ⟨oC, eC, hCs, hCn⟩ := obj_ns hN
  refine k _ _ ?_ (xs.upd S.base hC u fun o e => by rw [eC] at e; cases e; exact hCn)
  refine rep_list.mpr ⟨Da, ys.toList, rfl, ?_, ?_⟩
  · have : ys.toList.toArray = ys := by simp
    rw [this]
    refine plain_LO (plain_upd u hDC hDl) fun hm => ?_
    obtain ⟨o, e, _⟩ := S.base.priv _ hm
    rw [hD] at e; cases e
  · exact RepL.mono (keepSeq_upd u fun o e => by rw [eC] at e; cases e; exact hCs) _ _ (RepL.sub (fun a ha => List.mem_cons_of_mem _ ha) _ _ hr)
end Mine

namespace Mine
variable {Γ : Cfg} {n : Nat} {env : Env} {ρ : List (Str × D)}

/-! ## frames -/
noncomputable def put (x : Str) (d : D) : List (Str × D) → List (Str × D)
  | [] => [(x, d)]
  | (y, e) :: r => if x = y then (x, d) :: r else (y, e) :: put x d r
theorem put_look (x : Str) (d : D) : ∀ (ρ : List (Str × D)) (y : Str), (put x d ρ).lookup y = if y = x then some d else ρ.lookup y
  | [], y => by
    unfold put
    rw [List.lookup_cons]
    by_cases h : y = x
    · simp [h]
    · have : (y == x) = false := by simpa using h
      simp [this, h]
  | (z, e) :: r, y => by
    unfold put
    by_cases h : x = z
    · subst h
      rw [if_pos rfl, List.lookup_cons, List.lookup_cons]
      by_cases h2 : y = x
      · subst h2; simp
      · have : (y == x) = false := by simpa using h2
        simp [this, h2]
    · rw [if_neg h, List.lookup_cons, List.lookup_cons, put_look x d r y]
      by_cases h2 : y = z
      · subst h2
        have : ¬ y = x := fun e => h e.symm
        simp [this]
      · have : (y == z) = false := by simpa using h2
        simp [this]

/-- data without a place -/
noncomputable def Sc : D → Prop
  | .none => True
  | .typ _ => True
  | .adr _ => True
  | .bool _ => True
  | .int _ => True
  | .str _ => True
  | .list _ => False
  | .tup _ => False
theorem Sc.rep {X Y h h' d v} (hs : Sc d) (r : Rep X h d v) : Rep Y h' d v := by
  cases d <;> first | exact hs.elim | simpa [Rep] using r
theorem Sc.repL {X Y h h'} : ∀ {ds vs}, (∀ d ∈ ds, Sc d) → RepL X h ds vs → RepL Y h' ds vs
  | [], vs, _, r => by simpa [RepL] using r
  | d :: ds, vs, hs, r => by
    obtain ⟨v, r', rfl, h1, h2⟩ := repL_cons.mp r
    exact repL_cons.mpr ⟨v, r', rfl, (hs d (by simp)).rep h1, Sc.repL (fun e he => hs e (by simp [he])) h2⟩

noncomputable abbrev Pv := List (Str × Addr × List D)
noncomputable def adr (π : Pv) : List Addr := π.map fun p => p.2.1
noncomputable def vw : Pv → List (Str × D)
  | [] => []
  | (x, _, l) :: r => if x = "" then vw r else (x, .list l) :: vw r

noncomputable def Own (env : Env) (Y : List Addr) (I : Addr) : Prop := I = env.locals ∨ (∃ y, (y, I) ∈ env.cells) ∨ I ∈ Y

structure Fm (Γ : Cfg) (X : List Addr) (env : Env) (s₀ : Shared) (pins : List (Addr × Obj)) (π : Pv) (ρ : List (Str × D)) (s : Shared) : Prop where
  base₀ : Base Γ X s₀.heap
  step : Step Γ [] s₀ s
  fresh : ∀ I, Own env (adr π) I → s₀.heap.get? I = none
  cells : ∀ y c, (y, c) ∈ env.cells → ∃ v, s.heap.IsCell c v
  apart : env.cells.Pairwise fun x y => x.2 ≠ y.2
  st : St Γ (adr π ++ X) env ρ s
  priv : ∀ p ∈ π, (p.1 ≠ "" → ∃ m, s.heap.Ns env.locals m ∧ env.kindOf p.1 = some .local ∧ m p.1 = some (.ref p.2.1)) ∧ ∃ ys, s.heap.PlainList p.2.1 ys ∧ RepL (adr π ++ X) s.heap p.2.2 ys.toList
  nodup : (adr π).Nodup
  pin : ∀ p ∈ pins, s.heap.get? p.1 = some p.2 ∧ ¬ Own env (adr π) p.1 ∧ p.1 ≠ 86 ∧ p.1 ≠ 103 ∧ NoDict p.2

section
variable {X : List Addr} {s₀ s : Shared} {pins : List (Addr × Obj)} {π : Pv}

theorem Fm.base (F : Fm Γ X env s₀ pins π ρ s) : Base Γ (adr π ++ X) s.heap := F.st.base
theorem Fm.notNone (F : Fm Γ X env s₀ pins π ρ s) {I : Addr} (h : Own env (adr π) I) : ∃ o, s.heap.get? I = some o ∧ NotCode o := by
  rcases h with rfl | ⟨y, h⟩ | h
  · obtain ⟨m, hn, _⟩ := F.st.vars
    obtain ⟨o, e, _, h⟩ := obj_ns hn
    exact ⟨o, e, h⟩
  · obtain ⟨v, hc⟩ := F.cells y I h
    obtain ⟨o, e, _, h⟩ := obj_cell hc
    exact ⟨o, e, h⟩
  · obtain ⟨p, hp, rfl⟩ := List.mem_map.mp h
    obtain ⟨_, ys, hy, _⟩ := F.priv p hp
    obtain ⟨o, e, _, h⟩ := obj_seq hy
    exact ⟨o, e, h⟩
theorem Fm.weak {ρ'} (F : Fm Γ X env s₀ pins π ρ s) (h : ∀ x d, ρ'.lookup x = some d → ρ.lookup x = some d) : Fm Γ X env s₀ pins π ρ' s :=
  ⟨F.base₀, F.step, F.fresh, F.cells, F.apart, F.st.weak h, F.priv, F.nodup, F.pin⟩
theorem Fm.unpin {q} (F : Fm Γ X env s₀ (q ++ pins) π ρ s) : Fm Γ X env s₀ pins π ρ s :=
  ⟨F.base₀, F.step, F.fresh, F.cells, F.apart, F.st, F.priv, F.nodup, fun p hp => F.pin p (List.mem_append_right _ hp)⟩

/-- a step, the frame's own slots left aside -/
theorem Fm.slots {s' : Shared} (F : Fm Γ X env s₀ pins π ρ s) (x : Step Γ [env.locals] s s') : Fm Γ X env s₀ pins π ρ s' := by
  have B := F.base
  have x0 : Step Γ [] s s' := ⟨x.keep, x.frm, x.base, x.gens, x.os, x.drawn⟩
  refine ⟨F.base₀, F.step.trans x0, F.fresh, fun y c hc => ?_, F.apart, F.st.step x, fun p hp => ?_, F.nodup, fun p hp => ?_⟩
  · obtain ⟨v, h⟩ := F.cells y c hc
    exact ⟨v, x.cell B h⟩
  · obtain ⟨h1, ys, h4, h5⟩ := F.priv p hp
    refine ⟨fun hne => let ⟨m, h1, h2, h3⟩ := h1 hne; ⟨m, x.ns B h1, h2, h3⟩, ys, ?_, x.repL B h5⟩
    obtain ⟨n', e⟩ := h4
    have hb : p.2.1 ∈ adr π := List.mem_map.mpr ⟨p, hp, rfl⟩
    obtain ⟨_, g1, g2⟩ := fresh_ne F.base₀ (F.fresh _ (.inr (.inr hb)))
    exact ⟨n', x.keep _ _ e (by intro es n h; cases h) g1 g2⟩
  · obtain ⟨h1, h2, h3, h4⟩ := F.pin p hp
    exact ⟨x.keep _ _ h1 h4.2 h3 h4.1, h2, h3, h4⟩
theorem Fm.go {s' : Shared} (F : Fm Γ X env s₀ pins π ρ s) (x : Step Γ [] s s') : Fm Γ X env s₀ pins π ρ s' := F.slots x.wide

theorem lookup_append {α : Type} {a b : List (Str × α)} {x : Str} : (a ++ b).lookup x = (a.lookup x).or (b.lookup x) := by
  induction a with
  | nil => simp
  | cons p r ih =>
    obtain ⟨y, v⟩ := p
    rw [List.cons_append, List.lookup_cons, List.lookup_cons, ih]
    cases hxy : x == y <;> simp

theorem vw_look : ∀ {π : Pv} {x : Str} {d}, (vw π).lookup x = some d → ∃ a l, (x, a, l) ∈ π ∧ x ≠ "" ∧ d = .list l
  | [], x, d, h => by simp [vw] at h
  | (y, a, l) :: r, x, d, h => by
    unfold vw at h
    split at h
    · obtain ⟨a', l', hm, hd⟩ := vw_look (π := r) h
      exact ⟨a', l', by simp [hm], hd⟩
    · rename_i hne
      rw [List.lookup_cons] at h
      split at h
      · rename_i hxy
        cases h
        have : x = y := by simpa using hxy
        subst this
        exact ⟨a, l, by simp, hne, rfl⟩
      · obtain ⟨a', l', hm, hd⟩ := vw_look (π := r) h
        exact ⟨a', l', by simp [hm], hd⟩

/-- all names, the private lists too -/
theorem Fm.view (F : Fm Γ X env s₀ pins π ρ s) : St Γ X env (vw π ++ ρ) s := by
  have S := F.st.sub (Y := X) fun a ha => List.mem_append_right _ ha
  obtain ⟨m, hn, hv⟩ := S.vars
  refine ⟨S.base, S.glob, m, hn, fun x d h => ?_⟩
  rw [lookup_append] at h
  cases hx : (vw π).lookup x with
  | none => rw [hx] at h; exact hv x d (by simpa using h)
  | some d' =>
    rw [hx] at h
    have : d' = d := by simpa using h
    subst this
    obtain ⟨a, l, hm, hne, rfl⟩ := vw_look hx
    obtain ⟨h0, ys, h4, h5⟩ := F.priv _ hm
    obtain ⟨m', h1, h2, h3⟩ := h0 hne
    have hmm : m x = m' x := by
      obtain ⟨o, es, ep, e, hd, _, hl⟩ := hn
      obtain ⟨o', es', ep', e', hd', _, hl'⟩ := h1
      rw [e] at e'; cases e'; rw [hd] at hd'; cases hd'
      rw [← hl, ← hl']
    refine ⟨.ref a, rep_list.mpr ⟨a, ys.toList, rfl, ?_, RepL.sub (fun a ha => List.mem_append_right _ ha) _ _ h5⟩, .inl ⟨h2, hmm.trans h3⟩⟩
    have e2 : ys.toList.toArray = ys := by simp
    rw [e2]
    refine plain_LO h4 fun hx => ?_
    obtain ⟨o, e, _⟩ := F.base₀.priv _ hx
    rw [F.fresh a (.inr (.inr (List.mem_map.mpr ⟨_, hm, rfl⟩)))] at e; cases e
end
end Mine

namespace Mine
variable {Γ : Cfg} {n : Nat} {env : Env} {ρ : List (Str × D)} {X : List Addr} {s₀ s : Shared} {pins : List (Addr × Obj)} {π : Pv}

theorem Fm.offL (F : Fm Γ X env s₀ pins π ρ s) : env.locals ∉ adr π ++ X := fun hm => by
  obtain ⟨m, hn, _⟩ := F.st.vars
  rcases List.mem_append.mp hm with h | h
  · obtain ⟨p, hp, he⟩ := List.mem_map.mp h
    obtain ⟨_, ys, ⟨n', h4⟩, _⟩ := F.priv p hp
    obtain ⟨o, es, ep, e1, e2, _⟩ := hn
    rw [he, e1] at h4; cases h4; cases e2
  · obtain ⟨o, e, _⟩ := F.base₀.priv _ h
    rw [F.fresh _ (.inl rfl)] at e; cases e
theorem Fm.offC (F : Fm Γ X env s₀ pins π ρ s) {y c} (hc : (y, c) ∈ env.cells) : c ∉ adr π ++ X := fun hm => by
  obtain ⟨v, hv⟩ := F.cells y c hc
  rcases List.mem_append.mp hm with h | h
  · obtain ⟨p, hp, he⟩ := List.mem_map.mp h
    obtain ⟨_, ys, ⟨n', h4⟩, _⟩ := F.priv p hp
    obtain ⟨o, e1, e2⟩ := hv
    rw [he, e1] at h4; cases h4; cases e2
  · obtain ⟨o, e, _⟩ := F.base₀.priv _ h
    rw [F.fresh _ (.inr (.inl ⟨y, hc⟩))] at e; cases e
theorem Fm.LneC (F : Fm Γ X env s₀ pins π ρ s) {c : Addr} {v} (hc : s.heap.IsCell c v) : env.locals ≠ c := by
  obtain ⟨m, ⟨o, es, ep, e1, e2, _⟩, _⟩ := F.st.vars
  obtain ⟨o', e3, e4⟩ := hc
  rintro rfl
  rw [e1] at e3; cases e3; rw [e2] at e4; cases e4

/-- a name of the frame is bound -/
theorem Fm.store' {A : Around} {E : Value → Shared → Prop} {Q : Unit → Shared → Prop} {x : Str} {v : Value} {d : D} (F : Fm Γ X env s₀ pins π ρ s) (r : Rep (adr π ++ X) s.heap d v)
    (hk : env.kindOf x = some .local ∨ (env.kindOf x = some .cell ∧ (env.cells.lookup x).isSome = true)) (hx : ∀ p ∈ π, p.1 ≠ x)
    (k : ∀ s', Fm Γ X env s₀ pins π (put x d ρ) s' → KeepSeq s.heap s'.heap → Q () s') : wpAny Γ.M A (storeName env x v) Q E s := by
  have B := F.base
  obtain ⟨m, hn, hv⟩ := F.st.vars
  rcases hk with hk | ⟨hk, hc⟩
  · refine wpAny_storeName_local hk hn (fun h' hn' hs' => ?_) (by rw [F.st.glob.2.2]; rfl)
    have u : Upd env.locals s { s with heap := h', toks := s.toks + 1 } := Upd.same hs'
    obtain ⟨o, eo, hseq, hco⟩ := obj_ns hn
    have hN : ∀ o', s.heap.get? env.locals = some o' → NotCode o' := fun o' e => by rw [eo] at e; cases e; exact hco
    have hS : KeepSeq s.heap h' := keepSeq_upd u fun o' e => by rw [eo] at e; cases e; exact hseq
    refine k _ ?_ hS
    have hf := F.fresh _ (.inl rfl)
    have B' := B.upd u (fresh_ne F.base₀ hf) hN F.offL
    refine ⟨F.base₀, F.step.upd F.base₀ hf u hN, F.fresh, fun y c hc => ?_, F.apart, ⟨B', F.st.glob, _, hn', fun y e hy => ?_⟩, fun p hp => ?_, F.nodup, fun p hp => ?_⟩
    · obtain ⟨v', h⟩ := F.cells y c hc
      exact ⟨v', cell_upd u (Ne.symm (F.LneC h)) h⟩
    · rw [put_look] at hy
      split at hy
      · rename_i hyx
        subst hyx
        cases hy
        exact ⟨v, Rep.mono hS _ _ r, .inl ⟨hk, by simp⟩⟩
      · rename_i hyx
        obtain ⟨v', hr, hh⟩ := hv y e hy
        refine ⟨v', Rep.mono hS _ _ hr, hh.imp (fun ⟨a, b⟩ => ⟨a, by simp [hyx, b]⟩) fun ⟨a, c, b1, b2⟩ => ⟨a, c, b1, cell_upd u (Ne.symm (F.LneC b2)) b2⟩⟩
    · obtain ⟨h0, ys, h4, h5⟩ := F.priv p hp
      refine ⟨fun hne => ⟨_, hn', (let ⟨_, _, h2, _⟩ := h0 hne; h2), ?_⟩, ys, plain_upd u (fun e => ?_) h4, RepL.mono hS _ _ h5⟩
      · obtain ⟨m', h1, h2, h3⟩ := h0 hne
        have hmm : m' p.1 = m p.1 := by
          obtain ⟨o, es, ep, e, hd, _, hl⟩ := hn
          obtain ⟨o', es', ep', e', hd', _, hl'⟩ := h1
          rw [e] at e'; cases e'; rw [hd] at hd'; cases hd'
          rw [← hl, ← hl']
        rw [if_neg (hx p hp), ← hmm]; exact h3
      · exact F.offL (List.mem_append_left _ (e ▸ List.mem_map.mpr ⟨p, hp, rfl⟩))
    · obtain ⟨h1, h2, h3, h4⟩ := F.pin p hp
      exact ⟨u.at (fun e => h2 (.inl e)) h1, h2, h3, h4⟩
  · obtain ⟨c, hc⟩ := Option.isSome_iff_exists.mp hc
    have hcm := mem_of_lookup hc
    obtain ⟨v₀, hcell⟩ := F.cells x c hcm
    refine wpAny_storeName_cell F.st.glob.2.2 hk hc hcell fun h' hc' hs' => ?_
    have u : Upd c s { s with heap := h' } := Upd.same (tk := s.toks) hs'
    obtain ⟨o, eo, hseq, hco⟩ := obj_cell hcell
    have hN : ∀ o', s.heap.get? c = some o' → NotCode o' := fun o' e => by rw [eo] at e; cases e; exact hco
    have hS : KeepSeq s.heap h' := keepSeq_upd u fun o' e => by rw [eo] at e; cases e; exact hseq
    refine k _ ?_ hS
    have hf := F.fresh _ (.inr (.inl ⟨x, hcm⟩))
    have B' := B.upd u (fresh_ne F.base₀ hf) hN (F.offC hcm)
    have hL := F.LneC hcell
    refine ⟨F.base₀, F.step.upd F.base₀ hf u hN, F.fresh, fun y c2 hc2 => ?_, F.apart, ⟨B', F.st.glob, m, ns_upd u hL hn, fun y e hy => ?_⟩, fun p hp => ?_, F.nodup, fun p hp => ?_⟩
    · by_cases he : c2 = c
      · subst he; exact ⟨_, hc'⟩
      · obtain ⟨v', h⟩ := F.cells y c2 hc2
        exact ⟨v', cell_upd u he h⟩
    · rw [put_look] at hy
      split at hy
      · rename_i hyx
        subst hyx
        cases hy
        exact ⟨v, Rep.mono hS _ _ r, .inr ⟨.inl hk, c, hc, hc'⟩⟩
      · rename_i hyx
        obtain ⟨v', hr, hh⟩ := hv y e hy
        refine ⟨v', Rep.mono hS _ _ hr, hh.imp id fun ⟨a, c2, b1, b2⟩ => ⟨a, c2, b1, cell_upd u (fun e => ?_) b2⟩⟩
        subst e
        exact hyx (name_of_addr F.apart (mem_of_lookup b1) hcm)
    · obtain ⟨h0, ys, h4, h5⟩ := F.priv p hp
      refine ⟨fun hne => let ⟨m', h1, h2, h3⟩ := h0 hne; ⟨m', ns_upd u hL h1, h2, h3⟩, ys, plain_upd u (fun e => ?_) h4, RepL.mono hS _ _ h5⟩
      exact F.offC hcm (List.mem_append_left _ (e ▸ List.mem_map.mpr ⟨p, hp, rfl⟩))
    · obtain ⟨h1, h2, h3, h4⟩ := F.pin p hp
      exact ⟨u.at (fun e => h2 (.inr (.inl ⟨x, e ▸ hcm⟩))) h1, h2, h3, h4⟩

theorem Fm.store {A : Around} {E : Value → Shared → Prop} {Q : Unit → Shared → Prop} {x : Str} {v : Value} {d : D} (F : Fm Γ X env s₀ pins π ρ s) (r : Rep (adr π ++ X) s.heap d v)
    (hk : env.kindOf x = some .local ∨ (env.kindOf x = some .cell ∧ (env.cells.lookup x).isSome = true)) (hx : ∀ p ∈ π, p.1 ≠ x)
    (k : ∀ s', Fm Γ X env s₀ pins π (put x d ρ) s' → Q () s') : wpAny Γ.M A (storeName env x v) Q E s := F.store' r hk hx fun s' F' _ => k s' F'

/-- a pinned object changes -/
theorem Fm.drop {s' : Shared} {I : Addr} {o : Obj} (F : Fm Γ X env s₀ ((I, o) :: pins) π ρ s) (h5 : s₀.heap.get? I = none) (hp : ∀ p ∈ pins, p.1 ≠ I) (u : Upd I s s') (hN : NotCode o) (hq : ∃ vs, o.data = .fields vs) :
    Fm Γ X env s₀ pins π ρ s' := by
  obtain ⟨h1, h2, h3, h4⟩ := F.pin (I, o) (by simp)
  dsimp only at h1 h2 h3 h4
  obtain ⟨m, hn, hv⟩ := F.st.vars
  have hN' : ∀ o', s.heap.get? I = some o' → NotCode o' := fun o' e => by rw [h1] at e; cases e; exact hN
  have hS : KeepSeq s.heap s'.heap := keepSeq_upd u fun o' e => by
    rw [h1] at e; cases e
    obtain ⟨vs, hq⟩ := hq
    intro xs n h; rw [hq] at h; cases h
  have hX : I ∉ adr π ++ X := fun hm => by
    rcases List.mem_append.mp hm with h | h
    · exact h2 (.inr (.inr h))
    · obtain ⟨o, e, _⟩ := F.base₀.priv _ h
      rw [h5] at e; cases e
  have hL : env.locals ≠ I := fun e => h2 (.inl e.symm)
  have hC : ∀ y c, (y, c) ∈ env.cells → c ≠ I := fun y c hc e => h2 (.inr (.inl ⟨y, e ▸ hc⟩))
  refine ⟨F.base₀, F.step.upd F.base₀ h5 u hN', F.fresh, fun y c hc => ?_, F.apart, ⟨F.base.upd u (fresh_ne F.base₀ h5) hN' hX, F.st.glob, m, ns_upd u hL hn, fun y e hy => ?_⟩, fun p hp => ?_, F.nodup, fun p hp' => ?_⟩
  · obtain ⟨v, h⟩ := F.cells y c hc
    exact ⟨v, cell_upd u (hC y c hc) h⟩
  · obtain ⟨v', hr, hh⟩ := hv y e hy
    exact ⟨v', Rep.mono hS _ _ hr, hh.imp id fun ⟨a, c2, b1, b2⟩ => ⟨a, c2, b1, cell_upd u (by
      obtain ⟨oc, ec, hd⟩ := b2
      rintro rfl
      obtain ⟨vs, hq⟩ := hq
      rw [h1] at ec; cases ec
      rw [hq] at hd; cases hd) b2⟩⟩
  · obtain ⟨g0, ys, g4, g5⟩ := F.priv p hp
    refine ⟨fun hne => let ⟨m', g1, g2, g3⟩ := g0 hne; ⟨m', ns_upd u hL g1, g2, g3⟩, ys, plain_upd u (fun e => ?_) g4, RepL.mono hS _ _ g5⟩
    exact h2 (.inr (.inr (e ▸ List.mem_map.mpr ⟨p, hp, rfl⟩)))
  · obtain ⟨g1, g⟩ := F.pin p (by simp [hp'])
    exact ⟨u.at (hp p hp') g1, g⟩
theorem Fm.addPin {I : Addr} {o : Obj} (F : Fm Γ X env s₀ pins π ρ s) (e : s.heap.get? I = some o) (h1 : ¬ Own env (adr π) I) (h2 : I ≠ 86) (h3 : I ≠ 103 ∧ NoDict o) : Fm Γ X env s₀ ((I, o) :: pins) π ρ s :=
  ⟨F.base₀, F.step, F.fresh, F.cells, F.apart, F.st, F.priv, F.nodup, fun p hp => by
    rcases List.mem_cons.mp hp with rfl | hp
    · exact ⟨e, h1, h2, h3⟩
    · exact F.pin p hp⟩
theorem Fm.notOwn {I : Addr} (F : Fm Γ X env s₀ pins π ρ s) (e : s.heap.get? I = none) : ¬ Own env (adr π) I := fun h => by
  obtain ⟨o, e', _⟩ := F.notNone h
  rw [e] at e'; cases e'
end Mine

namespace Mine
variable {Γ : Cfg} {n : Nat} {env : Env} {ρ : List (Str × D)} {X : List Addr} {s₀ s : Shared} {pins : List (Addr × Obj)} {π : Pv} {A : Around} {Q : Flow → Shared → Prop} {E : Value → Shared → Prop} {rest : List Stmt}

noncomputable abbrev nm0 : Str := ""
theorem weak_nil {ρ : List (Str × D)} : ∀ x d, ([] : List (Str × D)).lookup x = some d → ρ.lookup x = some d := fun x d h => by simp at h
theorem weak_cons {ρ r : List (Str × D)} {x : Str} {d : D} (h : ρ.lookup x = some d) (t : ∀ y e, r.lookup y = some e → ρ.lookup y = some e) : ∀ y e, ((x, d) :: r).lookup y = some e → ρ.lookup y = some e := fun y e hy => by
  rw [List.lookup_cons] at hy
  split at hy
  · rename_i hxy
    have : y = x := by simpa using hxy
    subst this; cases hy; exact h
  · exact t y e hy

noncomputable def nameOk (env : Env) (π : Pv) (x : Str) : Bool := ((env.kindOf x == some .local) || ((env.kindOf x == some .cell) && (env.cells.lookup x).isSome)) && π.all fun p => !(p.1 == x)
theorem nameOk.kind {x : Str} (h : nameOk env π x = true) : env.kindOf x = some .local ∨ (env.kindOf x = some .cell ∧ (env.cells.lookup x).isSome = true) := by
  unfold nameOk at h
  simp only [Bool.and_eq_true, Bool.or_eq_true, beq_iff_eq] at h
  exact h.1
theorem nameOk.priv {x : Str} (h : nameOk env π x = true) : ∀ p ∈ π, p.1 ≠ x := by
  unfold nameOk at h
  simp only [Bool.and_eq_true] at h
  intro p hp
  have := List.all_eq_true.mp h.2 p hp
  simpa using this

/-- statements run -/
structure Go (Γ : Cfg) (A : Around) (body : List Stmt) (env : Env) (Q : Flow → Shared → Prop) (E : Value → Shared → Prop) (s : Shared) : Prop where
  run : wpAny Γ.M A (execs body env) Q E s
/-- where a block ends -/
noncomputable abbrev thn (Γ : Cfg) (A : Around) (env : Env) (rest : List Stmt) (Q : Flow → Shared → Prop) (E : Value → Shared → Prop) : Flow → Shared → Prop := fun f s' => match f with
  | .next => Go Γ A rest env Q E s'
  | f => Q f s'
theorem Go.cons {st : Stmt} (h : wpAny Γ.M A (exec st env) (thn Γ A env rest Q E) E s) : Go Γ A (st :: rest) env Q E s :=
  ⟨wpAny_execs_cons (wpAny_mono h (fun f s' h => by cases f <;> first | exact h.run | exact h) fun _ _ x => x)⟩
theorem Go.nil (h : Q .next s) : Go Γ A [] env Q E s := ⟨wpAny_execs_nil h⟩

theorem x_assign {x : Str} {p e pos d} (he : Ev Γ n env ρ e d) (R : Room n A) (F : Fm Γ X env s₀ pins π ρ s) (k : ∀ s', Fm Γ X env s₀ pins π (put x d ρ) s' → Go Γ A rest env Q E s')
    (hx : nameOk env π x = true := by rfl) (hs : swapsWith e (some (.Name x p)) pos.line env = pure false := by rfl) : Go Γ A (.Assign [.Name x p] e pos :: rest) env Q E s :=
  Go.cons (wpAny_Assign_Name (he A _ s _ E R F.st fun v s₁ r x₁ => (F.go x₁).store r (nameOk.kind hx) (nameOk.priv hx) fun s₂ F₂ => k s₂ F₂) hs)
theorem x_assignv {x : Str} {p e pos d} (he : Ev Γ n env (vw π ++ ρ) e d) (hd : Sc d) (R : Room n A) (F : Fm Γ X env s₀ pins π ρ s) (k : ∀ s', Fm Γ X env s₀ pins π (put x d ρ) s' → Go Γ A rest env Q E s')
    (hx : nameOk env π x = true := by rfl) (hs : swapsWith e (some (.Name x p)) pos.line env = pure false := by rfl) : Go Γ A (.Assign [.Name x p] e pos :: rest) env Q E s :=
  Go.cons (wpAny_Assign_Name (he A _ s _ E R F.view fun v s₁ r x₁ => (F.go x₁).store (hd.rep r) (nameOk.kind hx) (nameOk.priv hx) fun s₂ F₂ => k s₂ F₂) hs)

theorem x_if {t body orelse pos} {b : Bool} (ht : Tr Γ n env (vw π ++ ρ) t b) (R : Room n A) (F : Fm Γ X env s₀ pins π ρ s)
    (kt : b = true → ∀ s', Fm Γ X env s₀ pins π ρ s' → Go Γ A body env (thn Γ A env rest Q E) E s')
    (kf : b = false → ∀ s', Fm Γ X env s₀ pins π ρ s' → Go Γ A orelse env (thn Γ A env rest Q E) E s') : Go Γ A (.If t body orelse pos :: rest) env Q E s :=
  Go.cons (wpAny_If (ht A _ s _ E R F.view fun s₁ x₁ => by
    cases b with
    | true => rw [if_pos rfl]; exact (kt rfl s₁ (F.go x₁)).run
    | false => rw [if_neg (by decide)]; exact (kf rfl s₁ (F.go x₁)).run))
theorem x_skip {t body pos} (ht : Tr Γ n env (vw π ++ ρ) t false) (R : Room n A) (F : Fm Γ X env s₀ pins π ρ s)
    (k : ∀ s', Fm Γ X env s₀ pins π ρ s' → Go Γ A rest env Q E s') : Go Γ A (.If t body [] pos :: rest) env Q E s :=
  x_if ht R F (fun h => by cases h) fun _ s' F' => Go.nil (k s' F')

theorem x_ret {e pos d} (he : Ev Γ n env (vw π ++ ρ) e d) (R : Room n A) (F : Fm Γ X env s₀ pins π ρ s) (k : ∀ v s', Rep X s'.heap d v → Step Γ [] s₀ s' → Q (.ret v) s') :
    Go Γ A (.Return (some e) pos :: rest) env Q E s :=
  Go.cons (wpAny_Return_some (he A _ s _ E R F.view fun v s₁ r x₁ => k v s₁ r (F.step.trans x₁)))

theorem x_aug {x : Str} {p e pos i j} (hl : ρ.lookup x = some (.int i)) (he : Ev Γ n env (vw π ++ ρ) e (.int j)) (R : Room n A) (F : Fm Γ X env s₀ pins π ρ s) (k : ∀ s', Fm Γ X env s₀ pins π (put x (.int (i + j)) ρ) s' → Go Γ A rest env Q E s')
    (hx : nameOk env π x = true := by rfl) (hkl : env.kindOf x = some .local := by rfl) : Go Γ A (.AugAssign (.Name x p) .Add e pos :: rest) env Q E s := by
  refine Go.cons (wpAny_AugAssign_Name ?_)
  obtain ⟨m, hn, hv⟩ := F.st.vars
  obtain ⟨v, r, hh⟩ := hv x _ hl
  rcases hh with ⟨_, hm⟩ | ⟨hk, _⟩
  · refine wpAny_loadName_local F.st.glob.2.2 hkl hn hm ?_
    obtain ⟨t, rfl⟩ := rep_int.mp r
    refine he A _ s _ E R F.view fun u s₁ r₁ x₁ => ?_
    obtain ⟨t', rfl⟩ := rep_int.mp r₁
    refine iadd_int ?_
    exact (F.go (x₁.trans Step.tok)).store (rep_int.mpr ⟨_, rfl⟩) (nameOk.kind hx) (nameOk.priv hx) fun s₂ F₂ => k s₂ F₂
  · rw [hkl] at hk; rcases hk with h | h <;> cases h

/-! ## private lists -/
theorem Fm.alloc {ds : List D} {vs : List Value} {tk : Nat} (F : Fm Γ X env s₀ pins π ρ s) (hs : ∀ d ∈ ds, Sc d) (r : RepL X s.heap ds vs) :
    Fm Γ X env s₀ pins ((nm0, s.heap.objs.size, ds) :: π) ρ { s with heap := s.heap.push { cls := .type "list", data := .seq vs.toArray }, toks := tk } := by
  have x : Step Γ [] s { s with heap := s.heap.push { cls := .type "list", data := .seq vs.toArray }, toks := tk } := Step.push
  have F₂ := F.go x
  have hnone : s.heap.get? s.heap.objs.size = none := Heap.get?_none_of_le (Nat.le_refl _)
  have hnew : (s.heap.push { cls := .type "list", data := .seq vs.toArray }).get? s.heap.objs.size = some { cls := .type "list", data := .seq vs.toArray } := Heap.get?_push_size _ rfl
  have hex : ∀ I o, s.heap.get? I = some o → I ≠ s.heap.objs.size := fun I o e h => by rw [h, hnone] at e; cases e
  refine ⟨F.base₀, F₂.step, fun I hI => ?_, F₂.cells, F.apart, F.st.aside x hnone hnew (fun vs q => by cases q), fun p hp => ?_, ?_, fun p hp => ?_⟩
  · rcases hI with h | h | h
    · exact F.fresh I (.inl h)
    · exact F.fresh I (.inr (.inl h))
    · rcases List.mem_cons.mp h with rfl | h
      · exact fresh_back F.step F.base₀ hnone
      · exact F.fresh I (.inr (.inr h))
  · rcases List.mem_cons.mp hp with rfl | hp
    · exact ⟨fun h => absurd rfl h, vs.toArray, ⟨_, hnew⟩, by simpa using Sc.repL hs r⟩
    · obtain ⟨h0, ys, h4, h5⟩ := F.priv p hp
      obtain ⟨h0', _, _, _⟩ := F₂.priv p hp
      refine ⟨h0', ys, ?_, ?_⟩
      · obtain ⟨n', e⟩ := h4
        exact ⟨n', Heap.get?_push_of_some _ e⟩
      · exact RepL.mono (x.keepSeq F.base) _ _ (RepL.priv hnone _ _ h5)
  · refine List.nodup_cons.mpr ⟨fun hm => ?_, F.nodup⟩
    obtain ⟨o, e, _⟩ := F.notNone (.inr (.inr hm))
    exact hex _ _ e rfl
  · obtain ⟨h1, h2, h3, h4⟩ := F₂.pin p hp
    obtain ⟨g1, _⟩ := F.pin p hp
    refine ⟨h1, fun ho => ?_, h3, h4⟩
    rcases ho with h | h | h
    · exact h2 (.inl h)
    · exact h2 (.inr (.inl h))
    · rcases List.mem_cons.mp h with h | h
      · exact hex _ _ g1 h
      · exact h2 (.inr (.inr h))

theorem Fm.name {x : Str} {a : Addr} {l : List D} {π₁ π₂ : Pv} {Q : Unit → Shared → Prop} (F : Fm Γ X env s₀ pins (π₁ ++ (nm0, a, l) :: π₂) ρ s) (hk : env.kindOf x = some .local)
    (hx : ∀ p ∈ π₁ ++ π₂, p.1 ≠ x) (hl : ρ.lookup x = none) (hx0 : x ≠ "")
    (k : ∀ s', Fm Γ X env s₀ pins (π₁ ++ (x, a, l) :: π₂) ρ s' → Q () s') : wpAny Γ.M A (storeName env x (.ref a)) Q E s := by
  have B := F.base
  obtain ⟨m, hn, hv⟩ := F.st.vars
  refine wpAny_storeName_local hk hn (fun h' hn' hs' => k _ ?_) (by rw [F.st.glob.2.2]; rfl)
  have u : Upd env.locals s { s with heap := h', toks := s.toks + 1 } := Upd.same hs'
  obtain ⟨o, eo, hseq, hco⟩ := obj_ns hn
  have hN : ∀ o', s.heap.get? env.locals = some o' → NotCode o' := fun o' e => by rw [eo] at e; cases e; exact hco
  have hS : KeepSeq s.heap h' := keepSeq_upd u fun o' e => by rw [eo] at e; cases e; exact hseq
  have hf := F.fresh _ (.inl rfl)
  have B' := B.upd u (fresh_ne F.base₀ hf) hN F.offL
  have hadr : adr (π₁ ++ (x, a, l) :: π₂) = adr (π₁ ++ (nm0, a, l) :: π₂) := by simp [adr]
  have offP : ∀ p ∈ π₁ ++ (nm0, a, l) :: π₂, p.2.1 ≠ env.locals := fun p hp e => F.offL (List.mem_append_left _ (e ▸ List.mem_map.mpr ⟨p, hp, rfl⟩))
  have key : ∀ p ∈ π₁ ++ (nm0, a, l) :: π₂, p.1 ≠ x → (p.1 ≠ "" → ∃ m, h'.Ns env.locals m ∧ env.kindOf p.1 = some .local ∧ m p.1 = some (.ref p.2.1)) ∧ ∃ ys, h'.PlainList p.2.1 ys ∧ RepL (adr (π₁ ++ (nm0, a, l) :: π₂) ++ X) h' p.2.2 ys.toList := fun p hp hpx => by
    obtain ⟨h0, ys, h4, h5⟩ := F.priv p hp
    refine ⟨fun hne => ⟨_, hn', (let ⟨_, _, h2, _⟩ := h0 hne; h2), ?_⟩, ys, plain_upd u (offP p hp) h4, RepL.mono hS _ _ h5⟩
    obtain ⟨m', h1, h2, h3⟩ := h0 hne
    have hmm : m' p.1 = m p.1 := by
      obtain ⟨o, es, ep, e, hd, _, hl⟩ := hn
      obtain ⟨o', es', ep', e', hd', _, hl'⟩ := h1
      rw [e] at e'; cases e'; rw [hd] at hd'; cases hd'
      rw [← hl, ← hl']
    rw [if_neg hpx, ← hmm]; exact h3
  refine ⟨F.base₀, F.step.upd F.base₀ hf u hN, fun I hI => F.fresh I (hadr ▸ hI), fun y c hc => ?_, F.apart, ⟨hadr ▸ B', F.st.glob, _, hn', fun y e hy => ?_⟩, fun p hp => ?_, hadr ▸ F.nodup, fun p hp => ?_⟩
  · obtain ⟨v', h⟩ := F.cells y c hc
    exact ⟨v', cell_upd u (Ne.symm (F.LneC h)) h⟩
  · have hyx : y ≠ x := by rintro rfl; rw [hl] at hy; cases hy
    obtain ⟨v', hr, hh⟩ := hv y e hy
    rw [hadr]
    refine ⟨v', Rep.mono hS _ _ hr, hh.imp (fun ⟨a, b⟩ => ⟨a, by simp [hyx, b]⟩) fun ⟨a, c, b1, b2⟩ => ⟨a, c, b1, cell_upd u (Ne.symm (F.LneC b2)) b2⟩⟩
  · rw [hadr]
    rcases List.mem_append.mp hp with hp | hp
    · exact key p (List.mem_append_left _ hp) (hx p (List.mem_append_left _ hp))
    · rcases List.mem_cons.mp hp with rfl | hp
      · obtain ⟨_, r⟩ := key (nm0, a, l) (by simp) (Ne.symm hx0)
        exact ⟨fun _ => ⟨_, hn', hk, by simp⟩, r⟩
      · exact key p (List.mem_append_right _ (List.mem_cons_of_mem _ hp)) (hx p (List.mem_append_right _ hp))
  · rw [hadr]
    obtain ⟨h1, h2, h3, h4⟩ := F.pin p hp
    exact ⟨u.at (fun e => h2 (.inl e)) h1, h2, h3, h4⟩

/-- a private list changes -/
theorem Fm.mut {x : Str} {a : Addr} {l l' : List D} {π₁ π₂ : Pv} {s' : Shared} {ys : Array Value} (F : Fm Γ X env s₀ pins (π₁ ++ (x, a, l) :: π₂) ρ s) (u : Upd a s s') (hp : s'.heap.PlainList a ys)
    (hs : ∀ d ∈ l', Sc d) (r : RepL X s'.heap l' ys.toList) : Fm Γ X env s₀ pins (π₁ ++ (x, a, l') :: π₂) ρ s' := by
  have B := F.base
  obtain ⟨m, hn, hv⟩ := F.st.vars
  have hadr : adr (π₁ ++ (x, a, l') :: π₂) = adr (π₁ ++ (x, a, l) :: π₂) := by simp [adr]
  have hmem : a ∈ adr (π₁ ++ (x, a, l) :: π₂) := by simp [adr]
  have hown : Own env (adr (π₁ ++ (x, a, l) :: π₂)) a := .inr (.inr hmem)
  obtain ⟨oa, eoa, hco⟩ := F.notNone hown
  have hN : ∀ o', s.heap.get? a = some o' → NotCode o' := fun o' e => by rw [eoa] at e; cases e; exact hco
  have hf := F.fresh _ hown
  have hX : a ∈ adr (π₁ ++ (x, a, l) :: π₂) ++ X := List.mem_append_left _ hmem
  have hL : env.locals ≠ a := fun e => F.offL (e ▸ hX)
  have hC : ∀ c v, s.heap.IsCell c v → c ≠ a := fun c v hc e => by
    subst e
    obtain ⟨_, ys', ⟨n', h4⟩, _⟩ := F.priv (x, c, l) (by simp)
    obtain ⟨o, e1, e2⟩ := hc
    rw [e1] at h4; cases h4; cases e2
  have B' : Base Γ (adr (π₁ ++ (x, a, l) :: π₂) ++ X) s'.heap := by
    obtain ⟨g1, g2, g3⟩ := fresh_ne F.base₀ hf
    refine ⟨fun b o e h1 h2 => u.at (by rintro rfl; rw [g1] at e; cases e) (B.old b o e h1 h2), B.t1.upd u (Ne.symm g2) hN, B.t2.upd u (Ne.symm g3) hN, fun b hb => ?_⟩
    by_cases hba : b = a
    · subst hba
      obtain ⟨n', e⟩ := hp
      exact ⟨_, e, fun vs q => by cases q⟩
    · obtain ⟨o, e, h⟩ := B.priv b hb
      exact ⟨o, u.at hba e, h⟩
  refine ⟨F.base₀, F.step.upd F.base₀ hf u hN, fun I hI => F.fresh I (hadr ▸ hI), fun y c hc => ?_, F.apart, ⟨hadr ▸ B', F.st.glob, m, ns_upd u hL hn, fun y e hy => ?_⟩, fun p hp' => ?_, hadr ▸ F.nodup, fun p hp => ?_⟩
  · obtain ⟨v', h⟩ := F.cells y c hc
    exact ⟨v', cell_upd u (hC _ _ h) h⟩
  · obtain ⟨v', hr, hh⟩ := hv y e hy
    rw [hadr]
    exact ⟨v', Rep.upd u hX _ _ hr, hh.imp id fun ⟨a, c, b1, b2⟩ => ⟨a, c, b1, cell_upd u (hC _ _ b2) b2⟩⟩
  · rw [hadr]
    have hnd := F.nodup
    have key : ∀ p ∈ π₁ ++ (x, a, l) :: π₂, p.2.1 ≠ a → (p.1 ≠ "" → ∃ m, s'.heap.Ns env.locals m ∧ env.kindOf p.1 = some .local ∧ m p.1 = some (.ref p.2.1)) ∧ ∃ ys, s'.heap.PlainList p.2.1 ys ∧ RepL (adr (π₁ ++ (x, a, l) :: π₂) ++ X) s'.heap p.2.2 ys.toList := fun p hp hpa => by
      obtain ⟨h0, ys, h4, h5⟩ := F.priv p hp
      exact ⟨fun hne => let ⟨m', h1, h2⟩ := h0 hne; ⟨m', ns_upd u hL h1, h2⟩, ys, plain_upd u hpa h4, RepL.upd u hX _ _ h5⟩
    have hnd' : (adr π₁ ++ a :: adr π₂).Nodup := by simpa [adr] using hnd
    rw [List.nodup_append] at hnd'
    obtain ⟨_, n2, n3⟩ := hnd'
    rcases List.mem_append.mp hp' with hp' | hp'
    · exact key p (List.mem_append_left _ hp') fun e => n3 p.2.1 (List.mem_map.mpr ⟨p, hp', rfl⟩) a (by simp) e
    · rcases List.mem_cons.mp hp' with rfl | hp'
      · obtain ⟨h0, _⟩ := F.priv (x, a, l) (by simp)
        exact ⟨fun hne => let ⟨m', h1, h2⟩ := h0 hne; ⟨m', ns_upd u hL h1, h2⟩, ys, hp, Sc.repL hs r⟩
      · exact key p (List.mem_append_right _ (List.mem_cons_of_mem _ hp')) fun e => (List.nodup_cons.mp n2).1 (e ▸ List.mem_map.mpr ⟨p, hp', rfl⟩)
  · rw [hadr]
    obtain ⟨h1, h2, h3, h4⟩ := F.pin p hp
    exact ⟨u.at (fun e => h2 (e ▸ hown)) h1, h2, h3, h4⟩
end Mine

namespace Mine
variable {Γ : Cfg} {n : Nat} {env : Env} {ρ : List (Str × D)} {X : List Addr} {s₀ s : Shared} {pins : List (Addr × Obj)} {π : Pv} {A : Around} {Q : Flow → Shared → Prop} {E : Value → Shared → Prop} {rest : List Stmt}

/-- x = [e, ..] as a private list -/
theorem x_new {x : Str} {p pos pl es ds} (he : Evs Γ n env (vw π ++ ρ) es ds) (hs : ∀ d ∈ ds, Sc d) (R : Room n A) (F : Fm Γ X env s₀ pins π ρ s)
    (k : ∀ a s', Fm Γ X env s₀ pins ((x, a, ds) :: π) ρ s' → Go Γ A rest env Q E s')
    (hx : nameOk env π x = true := by rfl) (hkl : env.kindOf x = some .local := by rfl) (hl : ρ.lookup x = none := by rfl) (hz : ds.length ≤ 1000 := by decide) (hx0 : x ≠ "" := by decide) :
    Go Γ A (.Assign [.Name x p] (.List es pl) pos :: rest) env Q E s := by
  refine Go.cons (wpAny_Assign_Name (wpAny_List (he.run R F.view fun vs s₁ r x₁ => ⟨?_, ?_⟩)))
  · have := r.len; unfold sizeLine; omega
  have F₁ := (F.go x₁).alloc (tk := s₁.toks) hs r
  exact Fm.name (π₁ := []) F₁ hkl (nameOk.priv hx) hl hx0 fun s₂ F₂ => k _ s₂ F₂

theorem vw_nm0 {a : Addr} {l : List D} {π : Pv} : vw ((nm0, a, l) :: π) = vw π := by simp [vw]
theorem pushed_size (h : Heap) (o : Obj) : (h.push o).objs.size = h.objs.size + 1 := Heap.size_push ..

/-- x, y = ([..], [..]) as private lists, swapped -/
theorem x_new2 {x y : Str} {k1 k2 p1 p2 p3 p4 l1 l2 pos es es' ds ds'} (he : Evs Γ n env (vw π ++ ρ) es ds) (he' : Evs Γ n env (vw π ++ ρ) es' ds') (hs : ∀ d ∈ ds, Sc d) (hs' : ∀ d ∈ ds', Sc d) (R : Room n A) (F : Fm Γ X env s₀ pins π ρ s)
    (k : ∀ a b s', Fm Γ X env s₀ pins ((y, b, ds') :: (x, a, ds) :: π) ρ s' → Go Γ A rest env Q E s')
    (hx : nameOk env π x = true := by rfl) (hkx : env.kindOf x = some .local := by rfl) (hlx : ρ.lookup x = none := by rfl) (hz : ds.length ≤ 1000 := by decide) (hx0 : x ≠ "" := by decide)
    (hy : nameOk env π y = true := by rfl) (hky : env.kindOf y = some .local := by rfl) (hly : ρ.lookup y = none := by rfl) (hz' : ds'.length ≤ 1000 := by decide) (hy0 : y ≠ "" := by decide) (hxy : x ≠ y := by decide) (h3 : 3 ≤ n := by decide)
    (h1 : swapsWithSole [.Tuple [.Name x p1, .Name y p2] k1 p3] (.Tuple [.List es l1, .List es' l2] k2 p4) pos.line env = pure false := by rfl)
    (hw : swappedStores [.Tuple [.Name x p1, .Name y p2] k1 p3] (.Tuple [.List es l1, .List es' l2] k2 p4) env = pure (some [x, y]) := by rfl) :
    Go Γ A (.Assign [.Tuple [.Name x p1, .Name y p2] k1 p3] (.Tuple [.List es l1, .List es' l2] k2 p4) pos :: rest) env Q E s := by
  refine Go.cons (Assign_Tuple_swapped ?_ h1 hw)
  refine wpAny_Tuple (spliced_more (wpAny_List (he.run R F.view fun vs s₁ r x₁ => ⟨?_, ?_⟩)) rfl)
  · have := r.len; unfold sizeLine; omega
  have F₁ := (F.go x₁).alloc (tk := s₁.toks) hs r
  refine spliced_more (wpAny_List (he'.run R (vw_nm0 ▸ F₁.view) fun vs' s₂ r' x₂ => ⟨?_, ?_⟩)) rfl
  · have := r'.len; unfold sizeLine; omega
  have F₂ := (F₁.go x₂).alloc (tk := s₂.toks) hs' r'
  refine spliced_none ⟨by show 2 ≤ sizeLine; decide, ?_⟩
  generalize s₁.heap.objs.size = a at *
  generalize s₂.heap.objs.size = b at *
  generalize s₂.heap.push _ = H₂ at *
  have F₃ := F₂.go (Step.push (o := { cls := .type "tuple", data := .seq #[.ref a, .ref b] }) (tk := s₂.toks))
  refine unpackItems_tuple (items := #[.ref a, .ref b]) (R.hand h3) ⟨_, Heap.get?_push_size _ rfl, rfl, _, rfl⟩ fun h' he' => ?_
  have x₄ : Step Γ [] { s₂ with heap := H₂.push { cls := .type "tuple", data := .seq #[.ref a, .ref b] }, toks := s₂.toks } { s₂ with heap := h', toks := s₂.toks } :=
    Step.of_keeps fun b o e => he' b o (Nat.ne_of_lt (Heap.lt_size e)) e
  have F₄ := F₃.go x₄
  show wpAny Γ.M A (assignInOrder [bindName env y, bindName env x] [.ref b, .ref a]) _ _ _
  refine wpAny_assignInOrder_more (wpAny_bindName (Fm.name (π₁ := []) F₄ hky (fun p hp => ?_) hly hy0 fun s₅ F₅ => ?_))
  · rcases List.mem_cons.mp hp with rfl | hp
    · exact Ne.symm hy0
    · exact nameOk.priv hy p hp
  refine wpAny_assignInOrder_more (wpAny_bindName (Fm.name (π₁ := [(y, b, ds')]) F₅ hkx (fun p hp => ?_) hlx hx0 fun s₆ F₆ => wpAny_assignInOrder_none (k _ _ s₆ F₆)))
  rcases List.mem_cons.mp hp with rfl | hp
  · exact Ne.symm hxy
  · exact nameOk.priv hx p hp

/-- x.append(e), x private -/
theorem x_append {x : Str} {a : Addr} {l : List D} {π₁ π₂ : Pv} {px apos e pos pos' d} (F : Fm Γ X env s₀ pins (π₁ ++ (x, a, l) :: π₂) ρ s) (he : Ev Γ n env (vw (π₁ ++ (x, a, l) :: π₂) ++ ρ) e d) (hd : Sc d) (hl : ∀ d ∈ l, Sc d) (R : Room n A)
    (k : ∀ s', Fm Γ X env s₀ pins (π₁ ++ (x, a, l ++ [d]) :: π₂) ρ s' → Go Γ A rest env Q E s')
    (hkl : env.kindOf x = some .local := by rfl) (hz : l.length ≤ 1000) (hx0 : x ≠ "" := by decide) (hdb : (x == ("__debug__" : Str)) = false := by decide)
    (hbase : attributeBase (.Name x px) (Str.ofString "append") env (eval (.Name x px) env) = eval (.Name x px) env := by rfl)
    (hfew : ((((backTo pos (starEach [e] env)).all fun x => !x.fst) && (backToKw pos (keywordEach [] env)).all fun x => x.fst.isSome) && decide (([e].length + ([] : List Keyword).length + if ([] : List Keyword).isEmpty = true then 0 else 1) < 30)) = true := by rfl)
    (hline : (apos.endLine == pos.line) = true := by decide) (htrees : backTo pos (starEach [e] env) = [(false, eval e env)] := by rfl)
    (hint : interactive env = false := by rfl) (hsw : swapsWith (.Call (.Attribute (.Name x px) (Str.ofString "append") apos) [e] [] pos) none pos'.line env = pure false := by rfl) :
    Go Γ A (.Expr (.Call (.Attribute (.Name x px) (Str.ofString "append") apos) [e] [] pos) pos' :: rest) env Q E s := by
  refine Go.cons (wpAny_Expr (wpAny_Call_append hbase hfew hline htrees (wpAny_Name ?_ hdb)) hint hsw)
  obtain ⟨h0, ys, h4, _⟩ := F.priv (x, a, l) (by simp)
  obtain ⟨m, hn, _, hm⟩ := h0 hx0
  refine wpAny_loadName_local F.st.glob.2.2 hkl hn hm ⟨a, ys, rfl, ?_, ?_⟩
  · obtain ⟨n', e⟩ := h4; exact ⟨_, n', e, rfl, rfl, rfl⟩
  refine he A X s _ E R F.view fun v s₁ rv x₁ => ?_
  have F₁ := F.go x₁
  obtain ⟨_, ys₁, h4, h5⟩ := F₁.priv (x, a, l) (by simp)
  have h5' : RepL X s₁.heap l ys₁.toList := RepL.sub (fun b hb => List.mem_append_right _ hb) _ _ h5
  refine wpAny_list_append_plain h4 (fun h₂ hl₂ hs₂ => ?_) (size_fit h5'.len hz)
  refine k _ (F₁.mut (Upd.same (tk := s₁.toks) hs₂) hl₂ (fun d' hd' => ?_) ?_)
  · rcases List.mem_append.mp hd' with h | h
    · exact hl d' h
    · have : d' = d := by simpa using h
      subst this; exact hd
  · rw [Array.toList_push]
    exact (Sc.repL hl h5').append (repL_cons.mpr ⟨v, [], rfl, hd.rep rv, repL_nil.mpr rfl⟩)

/-! ## several names at once -/
noncomputable def putAll : List Str → List D → List (Str × D) → List (Str × D)
  | x :: xs, d :: ds, ρ => putAll xs ds (put x d ρ)
  | _, _, ρ => ρ
inductive Storers (env : Env) : List (Value → Sem Unit) → List Str → Prop
  | nil : Storers env [] []
  | name {f x fs xs} : (∀ {M : Model} {A : Around} {E : Value → Shared → Prop} {s : Shared} {v : Value} {Q : Unit → Shared → Prop}, wpAny M A (storeName env x v) Q E s → wpAny M A (f v) Q E s) → Storers env fs xs → Storers env (f :: fs) (x :: xs)

theorem Fm.stores {fs xs} (h : Storers env fs xs) : ∀ {ds vs ρ s} {Q : Unit → Shared → Prop}, Fm Γ X env s₀ pins π ρ s → RepL (adr π ++ X) s.heap ds vs → (∀ x ∈ xs, nameOk env π x = true) → ds.length = xs.length →
    (∀ s', Fm Γ X env s₀ pins π (putAll xs ds ρ) s' → Q () s') → wpAny Γ.M A (assignInOrder fs vs) Q E s := by
  induction h with
  | nil =>
    intro ds vs ρ s Q F r _ hl k
    have : ds = [] := by simpa using hl
    subst this
    rw [repL_nil] at r; subst r
    exact wpAny_assignInOrder_none (k s F)
  | @name f₁ x₁ fs₁ xs₁ hf _ ih =>
    intro ds vs ρ s Q F r hx hl k
    match ds, hl with
    | d :: ds, hl =>
      obtain ⟨v, vs', rfl, hv, hr⟩ := repL_cons.mp r
      have hx1 := hx x₁ (by simp)
      refine wpAny_assignInOrder_more (hf (F.store' hv (nameOk.kind hx1) (nameOk.priv hx1) fun s' F' hS => ?_))
      exact ih F' (RepL.mono hS _ _ hr) (fun y hy => hx y (by simp [hy])) (by simpa using hl) k

theorem RepL.rev {X h} : ∀ {ds vs}, RepL X h ds vs → RepL X h ds.reverse vs.reverse := fun r => RepL.reverse r

/-- x, .. = e: not swapped -/
theorem e_tup {elts k0 tp e pos ds} (xs : List Str) (he : Ev Γ n env ρ e (.tup ds)) (R : Room n A) (F : Fm Γ X env s₀ pins π ρ s) (k : ∀ s', Fm Γ X env s₀ pins π (putAll xs ds ρ) s' → Q .next s')
    (hst : Storers env (List.map (fun x => x.snd) (assignEach elts env)) xs)
    (hx : xs.all (nameOk env π) = true := by rfl) (hlen : ds.length = xs.length := by rfl) (hlen2 : (assignEach elts env).length = xs.length := by rfl)
    (hno : List.findIdx? (fun x => x.fst) (assignEach elts env) = none := by rfl) (h3 : 3 ≤ n := by decide)
    (h1 : swapsWithSole [.Tuple elts k0 tp] e pos.line env = pure false := by rfl) (hw : swappedStores [.Tuple elts k0 tp] e env = pure none := by rfl) :
    wpAny Γ.M A (exec (.Assign [.Tuple elts k0 tp] e pos) env) Q E s := by
  refine (Assign_Tuple (he A _ s _ E R F.st fun v s₁ r x₁ => ?_) h1 hw)
  obtain ⟨a, vs, rfl, hT, hr⟩ := rep_tup.mp r
  have hl := hr.len
  refine wpAny_assign_Tuple (R.hand h3) hT.obj (by rw [hlen2, ← hlen, ← hl]; simp) hno fun h' he' => ?_
  have x₂ : Step Γ [] s₁ { s₁ with heap := h', toks := s₁.toks } := Step.of_keeps fun b o e => he' b o (Nat.ne_of_lt (Heap.lt_size e)) e
  have F₁ := F.go x₁
  have F₂ := F₁.go x₂
  exact Fm.stores hst F₂ (x₂.repL F₁.base hr) (fun x hx' => List.all_eq_true.mp hx x hx') hlen fun s₃ F₃ => k s₃ F₃

/-- x, .. = e: not swapped -/
theorem x_tup {elts k0 tp e pos ds} (xs : List Str) (he : Ev Γ n env ρ e (.tup ds)) (R : Room n A) (F : Fm Γ X env s₀ pins π ρ s) (k : ∀ s', Fm Γ X env s₀ pins π (putAll xs ds ρ) s' → Go Γ A rest env Q E s')
    (hst : Storers env (List.map (fun x => x.snd) (assignEach elts env)) xs)
    (hx : xs.all (nameOk env π) = true := by rfl) (hlen : ds.length = xs.length := by rfl) (hlen2 : (assignEach elts env).length = xs.length := by rfl)
    (hno : List.findIdx? (fun x => x.fst) (assignEach elts env) = none := by rfl) (h3 : 3 ≤ n := by decide)
    (h1 : swapsWithSole [.Tuple elts k0 tp] e pos.line env = pure false := by rfl) (hw : swappedStores [.Tuple elts k0 tp] e env = pure none := by rfl) :
    Go Γ A (.Assign [.Tuple elts k0 tp] e pos :: rest) env Q E s := by
  exact Go.cons (e_tup xs he R F k hst hx hlen hlen2 hno h3 h1 hw)

/-- x, .. = e: swapped -/
theorem x_tups {elts k0 tp e pos ds} (xs : List Str) (he : Ev Γ n env ρ e (.tup ds)) (R : Room n A) (F : Fm Γ X env s₀ pins π ρ s) (k : ∀ s', Fm Γ X env s₀ pins π (putAll xs.reverse ds.reverse ρ) s' → Go Γ A rest env Q E s')
    (hst : Storers env (xs.reverse.map fun n => bindName env n) xs.reverse)
    (hx : xs.all (nameOk env π) = true := by rfl) (hlen : ds.length = xs.length := by rfl) (h3 : 3 ≤ n := by decide)
    (h1 : swapsWithSole [.Tuple elts k0 tp] e pos.line env = pure false := by rfl) (hw : swappedStores [.Tuple elts k0 tp] e env = pure (some xs) := by rfl) :
    Go Γ A (.Assign [.Tuple elts k0 tp] e pos :: rest) env Q E s := by
  refine Go.cons (Assign_Tuple_swapped (he A _ s _ E R F.st fun v s₁ r x₁ => ?_) h1 hw)
  obtain ⟨a, vs, rfl, hT, hr⟩ := rep_tup.mp r
  have hl := hr.len
  have hn : xs.length = vs.toArray.size := by rw [← hlen, ← hl]; simp
  rw [hn]
  refine unpackItems_tuple (R.hand h3) hT.obj fun h' he' => ?_
  have x₂ : Step Γ [] s₁ { s₁ with heap := h', toks := s₁.toks } := Step.of_keeps fun b o e => he' b o (Nat.ne_of_lt (Heap.lt_size e)) e
  have F₁ := F.go x₁
  have F₂ := F₁.go x₂
  exact Fm.stores hst F₂ (x₂.repL F₁.base (RepL.reverse (by simpa using hr))) (fun x hx' => List.all_eq_true.mp hx x (by simpa using hx')) (by simpa using hlen) fun s₃ F₃ => k s₃ F₃

theorem st_bind {x : Str} {fs xs} (h : Storers env fs xs) : Storers env (bindName env x :: fs) (x :: xs) := .name (fun h => wpAny_bindName h) h
theorem st_assign {x : Str} {p : Pos} {fs xs} (h : Storers env fs xs) : Storers env (assign (.Name x p) env :: fs) (x :: xs) := .name (fun h => PyProof.Rows.assign_Name h) h

/-- x = y = e -/
theorem x_two {x y : Str} {p q e pos d} (he : Ev Γ n env ρ e d) (R : Room n A) (F : Fm Γ X env s₀ pins π ρ s) (k : ∀ s', Fm Γ X env s₀ pins π (put y d (put x d ρ)) s' → Go Γ A rest env Q E s')
    (hx : nameOk env π x = true := by rfl) (hy : nameOk env π y = true := by rfl) (h1 : List.map (fun x => x.snd) (assignEach [.Name x p, .Name y q] env) = [assign (.Name x p) env, assign (.Name y q) env] := by rfl)
    (hs : swappedStores [.Name x p, .Name y q] e env = pure none := by rfl) : Go Γ A (.Assign [.Name x p, .Name y q] e pos :: rest) env Q E s := by
  refine Go.cons (wpAny_Assign_two (he A _ s _ E R F.st fun v s₁ r x₁ => ?_) h1 hs)
  refine PyProof.Rows.assign_Name ((F.go x₁).store' r (nameOk.kind hx) (nameOk.priv hx) fun s₂ F₂ hS => ?_)
  exact PyProof.Rows.assign_Name (F₂.store (Rep.mono hS _ _ r) (nameOk.kind hy) (nameOk.priv hy) fun s₃ F₃ => k s₃ F₃)
end Mine

namespace Mine
variable {Γ : Cfg} {n : Nat} {env : Env} {ρ : List (Str × D)} {X : List Addr} {s₀ s : Shared} {pins : List (Addr × Obj)} {π : Pv} {A : Around} {Q : Flow → Shared → Prop} {E : Value → Shared → Prop} {rest : List Stmt}

/-! ## loops -/
structure NextOk (Γ : Cfg) (n : Nat) (I : Addr) (extra : List (Addr × Obj)) (ds : List D) (P : Nat → Obj → Prop) : Prop where
  ok : ∀ j o, P j o → NotCode o ∧ ∃ vs, o.data = .fields vs
  next : ∀ A j s Q E d o, Room n A → s.heap.get? I = some o → P j o → (∀ p ∈ extra, s.heap.get? p.1 = some p.2) → ds[j]? = some d →
    (∀ v s' o', Rep [] s'.heap d v → s'.heap.get? I = some o' → P (j + 1) o' → Upd I s s' → Q (some v) s') → wpAny Γ.M A (pyNext (.ref I)) Q E s
  stop : ∀ A s Q E o, Room n A → s.heap.get? I = some o → P ds.length o → (∀ p ∈ extra, s.heap.get? p.1 = some p.2) → (∀ s', Upd I s s' → Q none s') → wpAny Γ.M A (pyNext (.ref I)) Q E s

noncomputable def ForIt (Γ : Cfg) (n : Nat) (X : List Addr) (env : Env) (s₀ : Shared) (pins : List (Addr × Obj)) (π : Pv) (ρ : List (Str × D)) (iter : Expr) (ds : List D) : Prop :=
  ∀ A s Q E, Room n A → Fm Γ X env s₀ pins π ρ s →
    (∀ x s₁, (∀ Q' E', (∀ I o extra P s₂, Fm Γ X env s₀ ((I, o) :: (extra ++ pins)) π ρ s₂ → s₀.heap.get? I = none → (∀ p ∈ extra ++ pins, p.1 ≠ I) → P 0 o → NextOk Γ n I extra ds P → Q' (.ref I) s₂) → wpAny Γ.M A (pyIter x) Q' E' s₁) → Q x s₁) →
    wpAny Γ.M A (eval iter env) Q E s

theorem forIt_list {e ds} (he : Ev Γ n env ρ e (.list ds)) (hs : ∀ d ∈ ds, Sc d) (h3 : 3 ≤ n := by decide) : ForIt Γ n X env s₀ pins π ρ e ds := fun A s Q E R F k => by
  refine he A _ s Q E R F.st fun v s₁ r x₁ => k v s₁ fun Q' E' kk => ?_
  have F₁ := F.go x₁
  obtain ⟨a, vs, rfl, ⟨hl, hpr⟩, hr⟩ := rep_list.mp r
  refine wpAny_pyIter_list hl.isList ?_
  have hnone : s₁.heap.get? s₁.heap.objs.size = none := Heap.get?_none_of_le (Nat.le_refl _)
  obtain ⟨ol, nl, el, e1, e2, e3⟩ := hl
  have halt := Heap.lt_size el
  have F₂ := F₁.go (Step.push (o := { cls := .type "list_iterator", data := .fields #[.ref a, .int 0 0] }) (tk := s₁.toks))
  have hal : ¬ Own env (adr π) a := fun h => by
    rcases h with rfl | ⟨y, h⟩ | h
    · obtain ⟨m, ⟨o, es, ep, g1, g2, _⟩, _⟩ := F₁.st.vars
      rw [el] at g1; cases g1; rw [e3] at g2; cases g2
    · obtain ⟨v, o, g1, g2⟩ := F₁.cells y a h
      rw [el] at g1; cases g1; rw [e3] at g2; cases g2
    · exact hpr (List.mem_append_left _ h)
  have h86 : a ≠ 86 := by
    rintro rfl
    obtain ⟨vs', g, _⟩ := F₁.base.t1
    rw [el] at g; cases g; cases e3
  have h103 : a ≠ 103 := by
    rintro rfl
    obtain ⟨vs', g, _⟩ := F₁.base.t2
    rw [el] at g; cases g; cases e3
  obtain ⟨_, f86, f103⟩ := fresh_ne F₁.base hnone
  have F₃ := (F₂.addPin (I := a) (Heap.get?_push_of_some _ el) hal h86 ⟨h103, by intro es n h; rw [e3] at h; cases h⟩).addPin (I := s₁.heap.objs.size) (Heap.get?_push_size _ rfl) (F₁.notOwn hnone) f86 ⟨f103, by intro es n h; cases h⟩
  refine kk _ _ [(a, ol)] (fun j o => o.cls = .type "list_iterator" ∧ o.data = .fields #[.ref a, .int j 0]) _ F₃ (fresh_back F₁.step F₁.base₀ hnone) (fun p hp => ?_) ⟨rfl, rfl⟩ ⟨fun j o ho => ?_, fun A j s Q E d o R e ho hx hd k => ?_, fun A s Q E o R e ho hx k => ?_⟩
  · rcases List.mem_cons.mp hp with rfl | hp
    · exact Nat.ne_of_lt halt
    · obtain ⟨g, _⟩ := F₁.pin p hp
      exact Nat.ne_of_lt (Heap.lt_size g)
  · exact ⟨fun vs' h q t => by rw [ho.2] at h; cases h; simp, _, ho.2⟩
  · have hx' := hx (a, ol) (by simp)
    obtain ⟨v, hv, rv⟩ := hr.get hd
    refine wpAny_pyNext_list_item ⟨o, e, ho⟩ ⟨ol, hx', e1, nl, e3⟩ (arr_get hv) fun h' hit hs' => ?_
    obtain ⟨o', e', ho'⟩ := hit
    exact k v _ o' ((hs d (List.mem_of_getElem? hd)).rep rv) e' ho' (Upd.same (tk := s.toks) hs')
  · have hx' := hx (a, ol) (by simp)
    refine wpAny_pyNext_list_end (R.hand h3) ⟨o, e, ho⟩ ⟨ol, hx', e1, nl, e3⟩ (by have := hr.len; simp [this]) fun h' he' => k _ (Upd.ext (tk := s.toks) he')

theorem range_next (h3 : 3 ≤ n) (a : Int) (m : Nat) (I : Addr) : NextOk Γ n I [] ((List.range m).map fun i => D.int (a + (i : Nat)))
    (fun j o => o = { cls := .type "range_iterator", dict := none, data := .fields #[rawInt (a + (j : Nat)), rawInt ((m : Int) - (j : Nat)), rawInt 1], slots := #[] }) where
  ok := fun j o e => by subst e; exact ⟨fun vs h q t => by cases h; simp [rawInt], _, rfl⟩
  next := fun A j s Q E d o R e hp _ hd k => by
    subst hp
    have hj : j < m := by
      have := (List.getElem?_eq_some_iff.mp hd).1; simpa using this
    have hd' : d = D.int (a + (j : Nat)) := by
      simp [hj] at hd; exact hd.symm
    subst hd'
    refine wpAny_pyNext_range_item e (by omega) fun h' hit hs => ?_
    refine k _ _ _ (rep_int.mpr ⟨_, rfl⟩) hit ?_ (Upd.same hs)
    have e1 : a + (j : Nat) + 1 = a + ((j + 1 : Nat) : Int) := by push_cast; omega
    have e2 : (m : Int) - (j : Nat) - 1 = (m : Int) - ((j + 1 : Nat) : Int) := by push_cast; omega
    rw [e1, e2]
  stop := fun A s Q E o R e hp _ k => by
    subst hp
    refine wpAny_pyNext_range_end (R.hand h3) e (by simp) fun h' he => k _ (Upd.ext (tk := s.toks) he)

theorem range_start (h3 : 3 ≤ n) {a : Int} {m : Nat} {t u v : Tok} {tk : Nat} (F : Fm Γ X env s₀ pins π ρ s) (ha : 0 ≤ a ∧ a ≤ 1000000) (hz : m ≤ 1000000) {Q' : Value → Shared → Prop} {E' : Value → Shared → Prop}
    (kk : ∀ I o extra P s₂, Fm Γ X env s₀ ((I, o) :: (extra ++ pins)) π ρ s₂ → s₀.heap.get? I = none → (∀ p ∈ extra ++ pins, p.1 ≠ I) → P 0 o → NextOk Γ n I extra ((List.range m).map fun i => D.int (a + (i : Nat))) P → Q' (.ref I) s₂) :
    wpAny Γ.M A (pyIter (.ref s.heap.objs.size)) Q' E' { s with heap := s.heap.push { cls := .type "range", data := .fields #[.int a t, .int (a + m) u, .int 1 v] }, toks := tk } := by
  have hsz : Builtin.Range.rangeSize a (a + m) 1 = (m : Int) := by rw [rangeSize_one]; split <;> omega
  have F₁ := F.go (Step.push (tk := tk) (o := { cls := .type "range", data := .fields #[.int a t, .int (a + m) u, .int 1 v] }))
  refine wpAny_pyIter_range (IsRange.new ..) (small_one (by omega) (by omega) (by omega) (by omega)) ?_
  rw [hsz]
  generalize hH : s.heap.push _ = H at F₁ ⊢
  have hnone : H.get? H.objs.size = none := Heap.get?_none_of_le (Nat.le_refl _)
  obtain ⟨_, f86, f103⟩ := fresh_ne (s := { s with heap := H, toks := tk }) F₁.base hnone
  have F₂ := F₁.go (Step.push (tk := tk) (o := { cls := .type "range_iterator", data := .fields #[rawInt a, rawInt (m : Int), rawInt 1] }))
  have F₃ := F₂.addPin (I := H.objs.size) (Heap.get?_push_size _ rfl) (F₁.notOwn hnone) f86 ⟨f103, by intro es n h; cases h⟩
  refine kk _ _ [] _ _ F₃ (fresh_back (s' := { s with heap := H, toks := tk }) F₁.step F₁.base₀ hnone) (fun p hp => ?_) ?_ (range_next h3 a m _)
  · obtain ⟨g, _⟩ := F₁.pin p hp
    exact Nat.ne_of_lt (Heap.lt_size g)
  · simp

theorem forIt_range2 (K : Γ.Ok) {p pos e e2} {a : Int} {m : Nat} (he : Ev Γ n env (vw π ++ ρ) e (.int a)) (he2 : Ev Γ n env (vw π ++ ρ) e2 (.int (a + m))) (ha : 0 ≤ a ∧ a ≤ 1000000) (hz : m ≤ 1000000)
    (hk : env.kindOf "range" = some .globalImplicit := by rfl) (hm : Γ.mg "range" = none) (h3 : 3 ≤ n := by decide)
    (hs : starEach [e, e2] env = [(false, eval e env), (false, eval e2 env)] := by rfl) (hs2 : starEach [e2] env = [(false, eval e2 env)] := by rfl) :
    ForIt Γ n X env s₀ pins π ρ (.Call (.Name "range" p) [e, e2] [] pos) ((List.range m).map fun i => D.int (a + (i : Nat))) := fun A s Q E R F k => by
  refine wpAny_Call_NameR (wp_bi (v := .type "range") K F.st hk hm (by decide +kernel) ?_)
  refine PySem.callWith_type (by rw [hs]; rfl) (evs_args (.cons he (by rw [hs, hs2]) (.cons he2 hs2 .nil)) R F.view fun vs s₁ r₁ x₁ => ?_)
  obtain ⟨v, u, rfl, hv, hu⟩ := repL2 (r₁)
  obtain ⟨t, rfl⟩ := rep_int.mp hv
  obtain ⟨t', rfl⟩ := rep_int.mp hu
  exact call_range_2 (k _ _ fun Q' E' kk => range_start h3 (F.go x₁) ha hz kk)
theorem forIt_range1 (K : Γ.Ok) {p pos e} {m : Nat} (he : Ev Γ n env (vw π ++ ρ) e (.int m)) (hz : m ≤ 1000000)
    (hk : env.kindOf "range" = some .globalImplicit := by rfl) (hm : Γ.mg "range" = none) (h3 : 3 ≤ n := by decide)
    (hs : starEach [e] env = [(false, eval e env)] := by rfl) :
    ForIt Γ n X env s₀ pins π ρ (.Call (.Name "range" p) [e] [] pos) ((List.range m).map fun i => D.int (0 + (i : Nat))) := fun A s Q E R F k => by
  refine wpAny_Call_NameR (wp_bi (v := .type "range") K F.st hk hm (by decide +kernel) ?_)
  refine PySem.callWith_type (by rw [hs]; rfl) (evs_args (.cons he hs .nil) R F.view fun vs s₁ r₁ x₁ => ?_)
  obtain ⟨v, rfl, hv⟩ := repL1 (r₁)
  obtain ⟨t, rfl⟩ := rep_int.mp hv
  have h0 : (m : Int) = 0 + (m : Nat) := by omega
  rw [h0]
  exact call_range_1 (k _ _ fun Q' E' kk => range_start h3 (F.go x₁) (by omega) hz kk)

/-- for x in e: the body turns (πs j, ρs j) to (πs (j+1), ρs (j+1)) -/
theorem x_for {x : Str} {px iter body pos ds} (ρs : Nat → List (Str × D)) (πs : Nat → Pv) (hit : ForIt Γ n X env s₀ pins (πs 0) (ρs 0) iter ds) (R : Room n A) (F : Fm Γ X env s₀ pins (πs 0) (ρs 0) s) (hs : ∀ d ∈ ds, Sc d)
    (hx : ∀ j, nameOk env (πs j) x = true)
    (hbody : ∀ j d, ds[j]? = some d → ∀ pins' s' Q' E', Fm Γ X env s₀ pins' (πs j) (put x d (ρs j)) s' → (∀ s'', Fm Γ X env s₀ pins' (πs (j + 1)) (ρs (j + 1)) s'' → Q' .next s'') → (∀ v s'', Q (.ret v) s'' → Q' (.ret v) s'') → Go Γ A body env Q' E' s')
    (k : ∀ s', Fm Γ X env s₀ pins (πs ds.length) (ρs ds.length) s' → Go Γ A rest env Q E s')
    (hadr : ∀ j, adr (πs j) = adr (πs 0) := by intro _; rfl)
    (hfold : ∀ v : Value, foldedSetIterable iter env v = pure v := by intro _; rfl) :
    Go Γ A (.For (.Name x px) iter body [] pos :: rest) env Q E s := by
  refine Go.cons (wpAny_For (hit A s _ E R F fun xv s₁ kk => kk _ _ fun I o extra P s₂ F₂ hI hp hP N => ?_) hfold)
  refine codeAny_forLoop_any (fun k s => ∃ j o, j ≤ ds.length ∧ k = ds.length + 1 - j ∧ Fm Γ X env s₀ ((I, o) :: (extra ++ pins)) (πs j) (ρs j) s ∧ P j o) ?_ (ds.length + 1) ⟨0, o, Nat.zero_le _, rfl, F₂, hP⟩
  intro kk s hJ
  refine via fun G ret => ?_
  obtain ⟨j, o, hj, rfl, F, hP⟩ := hJ
  obtain ⟨h1, h2⟩ := N.ok j o hP
  have e0 := (F.pin (I, o) (by simp)).1
  have ex : ∀ p ∈ extra, s.heap.get? p.1 = some p.2 := fun p hp => (F.pin p (by simp [hp])).1
  obtain ⟨_, pI, p86, p103⟩ := F.pin (I, o) (by simp)
  by_cases hlt : j < ds.length
  · obtain ⟨d, hd⟩ : ∃ d, ds[j]? = some d := ⟨_, List.getElem?_eq_getElem hlt⟩
    refine ret (N.next A j s _ _ d o R e0 hP ex hd fun v s₃ o' rv e' hP' u => ?_)
    clear ret
    have F₃ := (F.drop hI hp u h1 h2).addPin e' pI p86 ⟨p103.1, by obtain ⟨vs, hv⟩ := (N.ok _ _ hP').2; intro es n h; rw [hv] at h; cases h⟩
    refine wpAny_pure ?_
    refine PyProof.Rows.assign_Name (F₃.store ((hs d (List.mem_of_getElem? hd)).rep rv) (nameOk.kind (hx j)) (nameOk.priv (hx j)) fun s₄ F₄ => ?_)
    refine Go.run (hbody j d hd _ _ _ _ F₄ (fun s₅ F₅ => ?_) fun v s₅ q => q)
    exact ⟨ds.length + 1 - (j + 1), turn_lt hlt, j + 1, o', hlt, rfl, F₅, hP'⟩
  · have hj' : j = ds.length := turn_end hj hlt
    subst hj'
    refine ret (N.stop A s _ _ o R e0 hP ex fun s₃ u => ?_)
    have F₃ := F.drop hI hp u h1 h2
    exact wpAny_execs_nil (k _ F₃.unpin)

theorem x_while {test body pos} (N : Nat) (ρs : Nat → List (Str × D)) (πs : Nat → Pv) (R : Room n A) (F : Fm Γ X env s₀ pins (πs 0) (ρs 0) s)
    (hT : ∀ j, j < N → Tr Γ n env (vw (πs j) ++ ρs j) test true) (hF : Tr Γ n env (vw (πs N) ++ ρs N) test false)
    (hbody : ∀ j, j < N → ∀ s' Q' E', Fm Γ X env s₀ pins (πs j) (ρs j) s' → (∀ s'', Fm Γ X env s₀ pins (πs (j + 1)) (ρs (j + 1)) s'' → Q' .next s'') → Go Γ A body env Q' E' s')
    (k : ∀ s', Fm Γ X env s₀ pins (πs N) (ρs N) s' → Go Γ A rest env Q E s') :
    Go Γ A (.While test body [] pos :: rest) env Q E s := by
  refine Go.cons (wpAny_While ?_)
  refine codeAny_whileLoop (fun k s => ∃ j, j ≤ N ∧ k = N + 1 - j ∧ Fm Γ X env s₀ pins (πs j) (ρs j) s) ?_ (N + 1) ⟨0, Nat.zero_le _, rfl, F⟩
  intro kk s hI
  refine via fun G ret => ?_
  obtain ⟨j, hj, rfl, F⟩ := hI
  by_cases hlt : j < N
  · refine ret (hT j hlt A X s _ _ R F.view fun s₁ x₁ => ?_)
    clear ret
    rw [if_pos rfl]
    refine Go.run (hbody j hlt s₁ _ _ (F.go x₁) fun s₂ F₂ => ?_)
    exact ⟨N + 1 - (j + 1), turn_lt hlt, j + 1, hlt, rfl, F₂⟩
  · have hj' : j = N := turn_end hj hlt
    subst hj'
    refine ret (hF A X s _ _ R F.view fun s₁ x₁ => ?_)
    rw [if_neg (by decide)]
    exact wpAny_execs_nil (k _ (F.go x₁))
end Mine

namespace Mine
variable {Γ : Cfg} {n : Nat} {X : List Addr}

/-! ## a def of the text -/
noncomputable def stAt (i : Nat) : Stmt := (PySem.Challenge.pw_in0304_01.main.body[i]?).getD (.Pass default)

noncomputable def Defd (Γ : Cfg) (a : Addr) (st : Stmt) : Prop := match st with
  | .FunctionDef name params body _ _ _ scope _ _ _ => ∃ pm c doc o, Γ.h.get? a = some o ∧ o.data = .func (Calls.docDef name params body scope pm (.ref c) doc) ∧ Γ.h.CodeRec (.ref c) name ∧ Γ.mg name = some (.ref a) ∧
      a ≠ 86 ∧ a ≠ 103 ∧ c ≠ 86 ∧ c ≠ 103
  | _ => False

noncomputable def nameOf : Stmt → Str
  | .FunctionDef name .. => name
  | _ => ""
theorem Defd.isFn {a st} (h : Defd Γ a st) : IsFn Γ (nameOf st) a := by
  cases st <;> first | exact h.elim | skip
  obtain ⟨pm, c, doc, o, h1, h2, h3, h4, h5, h6, h7, h8⟩ := h
  exact ⟨h4, ⟨o, _, h1, h2⟩, h5, h6⟩

theorem bindL_skip {kindOf : Str → Option NameKind} {x : Str} : ∀ {binds : List (Str × Value)} {m : Str → Option Value}, x ∉ binds.map (·.1) → bindL kindOf binds m x = m x
  | [], m, _ => rfl
  | (y, v) :: r, m, h => by
    have h1 : x ≠ y := fun e => h (by simp [e])
    have h2 : x ∉ r.map (·.1) := fun e => h (by simp only [List.map_cons]; exact List.mem_cons_of_mem _ e)
    unfold bindL
    rw [bindL_skip h2]
    split <;> simp [h1]
theorem bindC_skip {kindOf : Str → Option NameKind} {x : Str} : ∀ {binds : List (Str × Value)} {m : Str → Option Value}, x ∉ binds.map (·.1) → bindC kindOf binds m x = m x
  | [], m, _ => rfl
  | (y, v) :: r, m, h => by
    have h1 : x ≠ y := fun e => h (by simp [e])
    have h2 : x ∉ r.map (·.1) := fun e => h (by simp only [List.map_cons]; exact List.mem_cons_of_mem _ e)
    unfold bindC
    rw [bindC_skip h2]
    split <;> simp [h1]
theorem bindL_look {kindOf : Str → Option NameKind} {x : Str} {v : Value} (hk : kindOf x = some .local) : ∀ {binds : List (Str × Value)} {m : Str → Option Value}, (binds.map (·.1)).Nodup → binds.lookup x = some v → bindL kindOf binds m x = some v
  | (y, u) :: r, m, hn, h => by
    rw [List.map_cons, List.nodup_cons] at hn
    unfold bindL
    rw [List.lookup_cons] at h
    split at h
    · rename_i hxy
      have : x = y := by simpa using hxy
      subst this
      cases h
      rw [bindL_skip hn.1, if_pos hk]; simp
    · exact bindL_look hk hn.2 h
theorem bindC_look {kindOf : Str → Option NameKind} {x : Str} {v : Value} (hk : kindOf x = some .cell) : ∀ {binds : List (Str × Value)} {m : Str → Option Value}, (binds.map (·.1)).Nodup → binds.lookup x = some v → bindC kindOf binds m x = some v
  | (y, u) :: r, m, hn, h => by
    rw [List.map_cons, List.nodup_cons] at hn
    unfold bindC
    rw [List.lookup_cons] at h
    split at h
    · rename_i hxy
      have : x = y := by simpa using hxy
      subst this
      cases h
      rw [bindC_skip hn.1, if_neg (by rw [hk]; decide)]; simp
    · exact bindC_look hk hn.2 h

theorem zip_rep {h : Heap} : ∀ {ps : List Str} {ds : List D} {vs : List Value}, RepL X h ds vs → ∀ x d, (ps.zip ds).lookup x = some d → ∃ v, (ps.zip vs).lookup x = some v ∧ Rep X h d v
  | [], _, _, _, x, d, hl => by simp at hl
  | p :: ps, [], _, _, x, d, hl => by simp at hl
  | p :: ps, e :: ds, vs, r, x, d, hl => by
    obtain ⟨v, vs', rfl, h1, h2⟩ := repL_cons.mp r
    rw [List.zip_cons_cons, List.lookup_cons] at hl ⊢
    split at hl
    · cases hl; exact ⟨v, rfl, h1⟩
    · exact zip_rep h2 x d hl

theorem cellsFrom_names : ∀ (names : List (Str × NameKind)) (k k' : Nat) (acc acc' : List (Str × Addr)), acc.map (·.1) = acc'.map (·.1) → (cellsFrom k names acc).map (·.1) = (cellsFrom k' names acc').map (·.1)
  | [], _, _, _, _, h => h
  | (z, kd) :: r, k, k', acc, acc', h => by
    unfold cellsFrom
    split
    · exact cellsFrom_names r _ _ _ _ (by simp [h])
    · exact cellsFrom_names r _ _ _ _ h
theorem lookup_of_mem {α : Type} : ∀ {l : List (Str × α)} {x : Str} {c : α}, (l.map (·.1)).Nodup → (x, c) ∈ l → l.lookup x = some c
  | (y, d) :: r, x, c, hn, hm => by
    rw [List.map_cons, List.nodup_cons] at hn
    rw [List.lookup_cons]
    rcases List.mem_cons.mp hm with e | hm'
    · cases e; simp
    · have : (x == y) = false := by
        rw [beq_eq_false_iff_ne]; rintro rfl
        exact hn.1 (List.mem_map.mpr ⟨_, hm', rfl⟩)
      rw [this]; exact lookup_of_mem hn.2 hm'

theorem fn_intro {name : Str} {params : Arguments} {body : List Stmt} {dl rt tp scope ts bd pos} {a : Addr} {ds : List D} {d : D} (ps : List Str) (K : Γ.Ok) (h : Defd Γ a (.FunctionDef name params body dl rt tp scope ts bd pos))
    (hb : ∀ A X s₀ env s E Q pm c doc, env = callEnvC (Calls.docDef name params body scope pm (.ref c) doc) s₀.heap.objs.size a → Room n A → Fm Γ X env s₀ [] [] (ps.zip ds) s → (∀ v s', Rep X s'.heap d v → Step Γ [] s₀ s' → Q (.ret v) s') →
      Go Γ A body env Q E s)
    (hlen : ps.length = ds.length := by rfl)
    (hps : ∀ pm c doc vals, vals.length = ps.length → bindArgs (Calls.docDef name params body scope pm c doc) ⟨vals, []⟩ = pure (ps.zip vals))
    (hnd : ps.Nodup := by decide) (hcn : ((cellsFrom 0 scope.names []).map (·.1)).Nodup := by decide)
    (hk : ∀ pm c doc L, ps.all (nameOk (callEnvC (Calls.docDef name params body scope pm c doc) L a) []) = true := by intro _ _ _ _; rfl)
    (hco : scope.isCoroutine = false := by rfl) (hgen : scope.isGenerator = false := by rfl) (hkind : scope.kind = .function := by rfl) : Fn Γ (n + 1) [] a ds d := by
  obtain ⟨pm, c, doc, o, h1, h2, h3, h4, h5, h6, h7, h8⟩ := h
  intro A X s vals R Rm B rv k
  have hv : vals.length = ps.length := by rw [hlen, rv.len]
  have hfst : (ps.zip vals).map (·.1) = ps := by rw [List.map_fst_zip]; omega
  refine codeAny_call_cells Rm.depth (B.old a o h1 h5 h6) h2 (B.lim K) (B.code h3 h7 h8) rfl (hps _ _ _ vals hv) rfl (fun x hx => ?_) (fun s₁ I => ?_) hco hgen hkind
  · have hm : x.1 ∈ ps := by rw [← hfst]; exact List.mem_map.mpr ⟨x, hx, rfl⟩
    exact nameOk.kind (List.all_eq_true.mp (hk pm (.ref c) doc s.heap.objs.size) x.1 hm)
  · generalize henv : callEnvC (Calls.docDef name params body scope pm (.ref c) doc) s.heap.objs.size a = env at I ⊢
    have x₁ : Step Γ [] s s₁ := by
      obtain ⟨h', tk, rfl⟩ := I.toInCall.same
      exact Step.of_keeps I.toInCall.keep
    have hL : s.heap.get? env.locals = none := Heap.get?_none_of_le I.toInCall.fresh
    have hC : ∀ y c, (y, c) ∈ env.cells → s.heap.get? c = none := fun y c hc => Heap.get?_none_of_le (Nat.le_of_lt (Nat.lt_of_le_of_lt I.toInCall.fresh (I.above y c hc)))
    have hcn' : (env.cells.map (·.1)).Nodup := by
      subst henv
      show ((cellsFrom _ scope.names []).map (·.1)).Nodup
      rw [cellsFrom_names scope.names _ 0 [] [] rfl]; exact hcn
    have F : Fm Γ X env s [] [] (ps.zip ds) s₁ := by
      refine ⟨B, x₁, fun I' hI => ?_, fun y c hc => ?_, I.apart, ⟨x₁.base B, ?_, _, I.toInCall.ns, fun x d hx => ?_⟩, by simp, by simp [adr], by simp⟩
      · rcases hI with rfl | ⟨y, h⟩ | h
        · exact hL
        · exact hC y I' h
        · simp [adr] at h
      · exact ⟨_, I.cell y c (lookup_of_mem hcn' hc)⟩
      · subst henv; exact ⟨rfl, rfl, hkind⟩
      · obtain ⟨v, hl, hr⟩ := zip_rep rv x d hx
        have hm : x ∈ ps := by rw [← hfst]; exact List.mem_map.mpr ⟨_, mem_of_lookup hl, rfl⟩
        refine ⟨v, x₁.rep B hr, ?_⟩
        have hkk := List.all_eq_true.mp (hk pm (.ref c) doc s.heap.objs.size) x hm
        rw [henv] at hkk
        rcases nameOk.kind hkk with hk1 | ⟨hk1, hk2⟩
        · exact .inl ⟨hk1, bindL_look hk1 (by rw [hfst]; exact hnd) hl⟩
        · obtain ⟨c', hc'⟩ := Option.isSome_iff_exists.mp hk2
          refine .inr ⟨.inl hk1, c', hc', ?_⟩
          have := I.cell x c' hc'
          rwa [bindC_look hk1 (by rw [hfst]; exact hnd) hl] at this
    have fine : FineEnv env := by subst henv; exact ⟨rfl, rfl, hgen, hco⟩
    exact (hb _ X s env s₁ _ _ pm c doc henv.symm (Rm.deeper fine) F fun v s' rv' x' => k v s' rv' x').run
end Mine

namespace Mine
variable {Γ : Cfg} {n : Nat} {env : Env} {ρ : List (Str × D)} {X : List Addr}

/-! ## the text's names -/
structure Law (Γ : Cfg) : Prop extends Γ.Ok where
  none : ∀ x ∈ (["range", "sorted", "list", "len", "str", "type", "IndexError", "ValueError"] : List Str), Γ.mg x = none
  sep : ∃ t, Γ.mg "sep" = some (.str (mkS [47]) t)
  d3 : Defd Γ 28 (stAt 3)
  d4 : Defd Γ 35 (stAt 4)
  d5 : Defd Γ 42 (stAt 5)
  d7 : Defd Γ 49 (stAt 7)
  d9 : Defd Γ 56 (stAt 9)
  d10 : Defd Γ 63 (stAt 10)
  d11 : Defd Γ 70 (stAt 11)
  d13 : Defd Γ 77 (stAt 13)
  d14 : Defd Γ 84 (stAt 14)
  d15 : Defd Γ 89 (stAt 15)
  d16 : Defd Γ 96 (stAt 16)
  d17 : Defd Γ 101 (stAt 17)

theorem rep_typ {h v T} : Rep X h (.typ T) v ↔ v = .type T := by simp only [Rep]
theorem op_is_typ {a b : String} : Op2 Γ n (compareOp .Is) (.typ a) (.typ b) (.bool (Value.type a == Value.type b)) := fun A X s v u Q E _ _ hv hu k => by
  rw [rep_typ] at hv hu; subst hv hu
  exact wpAny_bind (wpAny_pure (wpAny_pure (k _ s (rep_bool.mpr rfl) (Step.refl _))))
theorem ev_bityp (K : Γ.Ok) {x : Str} {p T} (hk : env.kindOf x = some .globalImplicit) (hm : Γ.mg x = none) (hv : bootBuiltins x = some (.type T))
    (hd : (x == ("__debug__" : Str)) = false := by decide) (hn : x ≠ "__name__" := by decide) : Ev Γ n env ρ (.Name x p) (.typ T) := fun A X s Q E R S k =>
  wp_bi K S hk hm hv (k _ s (rep_typ.mpr rfl) (Step.refl _)) hd hn
theorem bi_type {l : List Nat} : Bi Γ n (.type "type") [.str l] (.typ "str") := fun A X s vals Q E R B rv k => by
  obtain ⟨v, rfl, hv⟩ := repL1 (rv)
  obtain ⟨t, rfl⟩ := rep_str.mp hv
  exact call_type_of rfl (by decide) (k _ _ (rep_typ.mpr rfl) (Step.refl _))

theorem zipC {vals : List Value} {n : Nat} (h : vals.length = n + 1) : ∃ a r, vals = a :: r ∧ r.length = n := by
  cases vals with
  | nil => exact absurd h (Nat.succ_ne_zero n).symm
  | cons a r => exact ⟨a, r, rfl, Nat.succ.inj h⟩
theorem zip1 {vals : List Value} (h : vals.length = 1) : ∃ a, vals = [a] := List.length_eq_one_iff.mp h
theorem zip2 {vals : List Value} (h : vals.length = 2) : ∃ a b, vals = [a, b] := by
  obtain ⟨a, r, rfl, h1⟩ := zipC h
  obtain ⟨b, rfl⟩ := zip1 h1
  exact ⟨a, b, rfl⟩
theorem zip3 {vals : List Value} (h : vals.length = 3) : ∃ a b c, vals = [a, b, c] := by
  obtain ⟨a, r, rfl, h1⟩ := zipC h
  obtain ⟨b, c, rfl⟩ := zip2 h1
  exact ⟨a, b, c, rfl⟩

theorem fn_cmp (L : Law Γ) {xs ys : List (List Nat)} : Fn Γ 4 [] 70 [.list (xs.map .str), .list (ys.map .str)] (.int (b2i (gtL xs ys) - b2i (ltL xs ys))) := by
  refine fn_intro ["x", "y"] L.toOk L.d11 (fun A X s₀ env s E Q pm c doc he R F k => ?_) (hps := fun pm c doc vals hv => by obtain ⟨a, b, rfl⟩ := zip2 hv; rfl)
  subst he
  refine x_ret (ev_bin (ev_cmp (ev_name rfl) (ev_name rfl) op_gt_list) (ev_cmp (ev_name rfl) (ev_name rfl) op_lt_list) op_subb) R F k
end Mine

namespace Mine
variable {Γ : Cfg} {n : Nat} {env : Env} {ρ : List (Str × D)} {X : List Addr} {s₀ s : Shared} {pins : List (Addr × Obj)} {π : Pv} {A : Around} {Q : Flow → Shared → Prop} {E : Value → Shared → Prop} {rest : List Stmt}

theorem x_whileI {α : Type} {test body pos} (m : α → Nat) (ρf : α → List (Str × D)) (πf : α → Pv) (Inv : α → Prop) (a₀ : α) (R : Room n A) (F : Fm Γ X env s₀ pins (πf a₀) (ρf a₀) s) (h₀ : Inv a₀)
    (step : ∀ a, Inv a → (Tr Γ n env (vw (πf a) ++ ρf a) test true ∧ ∃ a', Inv a' ∧ m a' < m a ∧
        ∀ s' Q' E', Fm Γ X env s₀ pins (πf a) (ρf a) s' → (∀ s'', Fm Γ X env s₀ pins (πf a') (ρf a') s'' → Q' .next s'') → Go Γ A body env Q' E' s') ∨
      (Tr Γ n env (vw (πf a) ++ ρf a) test false ∧ ∀ s', Fm Γ X env s₀ pins (πf a) (ρf a) s' → Go Γ A rest env Q E s')) :
    Go Γ A (.While test body [] pos :: rest) env Q E s := by
  refine Go.cons (wpAny_While ?_)
  refine codeAny_whileLoop (fun k s => ∃ a, Inv a ∧ k = m a ∧ Fm Γ X env s₀ pins (πf a) (ρf a) s) ?_ (m a₀) ⟨a₀, h₀, rfl, F⟩
  intro kk s hJ
  refine via fun G ret => ?_
  obtain ⟨a, hI, rfl, F⟩ := hJ
  rcases step a hI with ⟨ht, a', hI', hm, hb⟩ | ⟨hf, k⟩
  · refine ret (ht A X s _ _ R F.view fun s₁ x₁ => ?_)
    clear ret
    rw [if_pos rfl]
    exact Go.run (hb s₁ _ _ (F.go x₁) fun s₂ F₂ => ⟨m a', hm, a', hI', rfl, F₂⟩)
  · refine ret (hf A X s _ _ R F.view fun s₁ x₁ => ?_)
    rw [if_neg (by decide)]
    exact wpAny_execs_nil (k _ (F.go x₁))

theorem Tr.to {e b c} (h : Tr Γ n env ρ e b) (e' : b = c) : Tr Γ n env ρ e c := e' ▸ h
theorem Ev.to {e b c} (h : Ev Γ n env ρ e b) (e' : b = c) : Ev Γ n env ρ e c := e' ▸ h
noncomputable def iD (l : List Nat) : List D := l.map fun p => .int (p : Nat)
noncomputable def sD (l : List (List Nat)) : List D := l.map .str
theorem iD_len (l) : (iD l).length = l.length := by simp [iD]
theorem sD_len (l) : (sD l).length = l.length := by simp [sD]
theorem iD_get {l : List Nat} {i p : Nat} (h : l[i]? = some p) : (iD l)[i]? = some (.int (p : Nat)) := by simp [iD, h]
theorem sD_get {l : List (List Nat)} {i : Nat} {t} (h : l[i]? = some t) : (sD l)[i]? = some (.str t) := by simp [sD, h]
theorem iD_sc {l} : ∀ d ∈ iD l, Sc d := fun d h => by
  obtain ⟨p, _, rfl⟩ := List.mem_map.mp h; trivial
theorem sD_sc {l} : ∀ d ∈ sD l, Sc d := fun d h => by
  obtain ⟨p, _, rfl⟩ := List.mem_map.mp h; trivial

/-! ## the chain of a place -/
noncomputable def up (ab : List Nat) (p : Nat) : Nat := ab.getD p 0
noncomputable def chn (ab : List Nat) : Nat → Nat → List Nat
  | 0, _ => []
  | f + 1, p => if p = 0 then [] else chn ab f (up ab p) ++ [p]
structure Tree (ab : List Nat) : Prop where
  len : ab.length = 9
  zero : up ab 0 = 0
  lt : ∀ p, 0 < p → p ≤ 8 → up ab p < p
theorem Tree.get {ab} (T : Tree ab) {p : Nat} (h : p ≤ 8) : ab[p]? = some (up ab p) := by
  have hl : p < ab.length := by have := T.len; omega
  unfold up
  rw [List.getD_eq_getElem?_getD, List.getElem?_eq_getElem hl]; rfl
theorem chn_len (ab : List Nat) : ∀ f p, (chn ab f p).length ≤ f
  | 0, _ => by simp [chn]
  | f + 1, p => by
    unfold chn; split
    · simp
    · have := chn_len ab f (up ab p); simp; omega

theorem fn_chain (L : Law Γ) {ab : List Nat} (T : Tree ab) {p : Nat} (hp : p ≤ 8) : Fn Γ 2 [] 84 [.int p, .list (iD ab)] (.list (iD (chn ab 8 p))) := by
  refine fn_intro ["place", "above"] L.toOk L.d14 (fun A X s₀ env s E Q pm c doc he R F k => ?_) (hps := fun pm c doc vals hv => by obtain ⟨a, b, rfl⟩ := zip2 hv; rfl)
  subst he
  refine x_assign (ev_list .nil) R F fun s F => ?_
  refine x_whileI (α := Nat × List Nat) (fun a => a.1) (fun a => [("place", .int (a.1 : Nat)), ("above", .list (iD ab)), ("row", .list (iD a.2))]) (fun _ => [])
    (fun a => a.1 ≤ 8 ∧ ∃ f, a.1 ≤ f ∧ chn ab f a.1 ++ a.2 = chn ab 8 p) (p, []) R F ⟨hp, 8, hp, by simp⟩ ?_
  rintro ⟨q, row⟩ ⟨hq, f, hf, e⟩
  dsimp only at hq hf e ⊢
  by_cases h0 : q = 0
  · subst h0
    refine .inr ⟨(tr_val (ev_name rfl) tr_int).to (by simp), fun s' F => ?_⟩
    have hr : chn ab f 0 = [] := by cases f <;> simp [chn]
    rw [hr, List.nil_append] at e
    subst e
    exact x_ret (ev_name rfl) R F k
  · obtain ⟨g, rfl⟩ : ∃ g, f = g + 1 := ⟨f - 1, by omega⟩
    have hlt := T.lt q (by omega) hq
    rw [chn, if_neg h0, List.append_assoc] at e
    have hlen : row.length ≤ 8 := by
      have := chn_len ab 8 p
      rw [← e] at this; simp at this; omega
    refine .inl ⟨(tr_val (ev_name rfl) tr_int).to (by simp; omega), (up ab q, [q] ++ row), ⟨by dsimp only; omega, g, by dsimp only; omega, e⟩, hlt, fun s' Q' E' F kk => ?_⟩
    refine x_assign (ev_bin (ev_list (.cons (ev_name rfl) rfl .nil) (by simp)) (ev_name rfl) (op_addl (by simp [iD]; omega))) R F fun s F => ?_
    refine x_assign (ev_item (k := ((q : Nat) : Int)) (ev_name rfl) (ev_name rfl) (nn q) (lt62c hq) (iD_get (T.get hq))) R F fun s F => ?_
    refine Go.nil (kk s (F.weak ?_))
    exact weak_cons rfl (weak_cons rfl (weak_cons rfl weak_nil))
end Mine

namespace Mine
variable {Γ : Cfg} {n : Nat} {env : Env} {ρ : List (Str × D)} {X : List Addr} {s₀ s : Shared} {pins : List (Addr × Obj)} {π : Pv} {A : Around} {Q : Flow → Shared → Prop} {E : Value → Shared → Prop} {rest : List Stmt}

theorem ev_compG {α : Type} {elt iter : Expr} {x : Str} {px : Pos} {ifs : List Expr} {scope : Scope} {pos : Pos} (g : α → D) (inv : D → α) (l : List α) (p : α → Bool) (f : α → D) (hg : ∀ a ∈ l, inv (g a) = a)
    (hi : EvI Γ n env ρ iter (l.map g))
    (ht : ∀ C cl, ∀ a ∈ l, Tests Γ n (compEnvC scope cl C env) ((x, g a) :: cρ scope ρ) ifs (p a))
    (he : ∀ C cl, ∀ a ∈ l, p a = true → Ev Γ n (compEnvC scope cl C env) ((x, g a) :: cρ scope ρ) elt (f a))
    (hsz : l.length ≤ 1000)
    (hk : scope.kind = .function := by rfl) (hf : freeOk env ρ scope = true := by rfl)
    (hnames : ∀ y ∈ scope.names, y.2 = .local → scope.names.lookup y.1 = some .local := by decide)
    (hx : scope.names.lookup x = some .local ∨ ((x, NameKind.cell) ∈ scope.names ∧ scope.names.lookup x = some .cell) := by decide)
    (hcell : ∀ y ∈ scope.names, y.2 = .cell → y.1 = x := by decide)
    (hs : ∀ x, foldedSetIterable iter env x = pure x := by intro _; rfl) :
    Ev Γ n env ρ (.ListComp elt [⟨.Name x px, iter, ifs, 0⟩] scope pos) (.list ((l.filter p).map f)) := by
  have key : ((l.map g).filter (p ∘ inv)).map (f ∘ inv) = (l.filter p).map f := by
    rw [List.filter_map, List.map_map]
    have h1 : l.filter ((p ∘ inv) ∘ g) = l.filter p := List.filter_congr fun a ha => by simp [hg a ha]
    rw [h1]
    exact List.map_congr_left fun a ha => by simp [hg a (List.mem_filter.mp ha).1]
  rw [← key]
  refine ev_comp (p ∘ inv) (f ∘ inv) hi hk hf hnames hx hcell (fun C cl d hd => ?_) (fun C cl d hd hp => ?_) (by simpa using hsz) hs
  · obtain ⟨a, ha, rfl⟩ := List.mem_map.mp hd
    show Tests _ _ _ _ _ (p (inv (g a)))
    rw [hg a ha]; exact ht C cl a ha
  · obtain ⟨a, ha, rfl⟩ := List.mem_map.mp hd
    show Ev _ _ _ _ _ (f (inv (g a)))
    have hp' : p (inv (g a)) = true := hp
    rw [hg a ha] at hp' ⊢
    exact he C cl a ha hp'

noncomputable def unI : D → Nat
  | .int i => i.toNat
  | _ => 0
noncomputable def unS : D → List Nat
  | .str s => s
  | _ => []
theorem contains_cast (l : List Nat) (k : Nat) : (l.map fun (p : Nat) => (p : Int)).contains (k : Int) = l.contains k := by
  induction l with
  | nil => rfl
  | cons a r ih =>
    rw [List.map_cons, List.contains_cons, List.contains_cons, ih]
    congr 1
    rw [Bool.eq_iff_iff, beq_iff_eq, beq_iff_eq]; omega
theorem iD_map (l : List Nat) : iD l = (l.map fun (p : Nat) => (p : Int)).map D.int := by simp [iD]
theorem op_in_iD {k : Nat} {l : List Nat} : Op2 Γ n (compareOp .In) (.int (k : Nat)) (.list (iD l)) (.bool (l.contains k)) := by
  rw [iD_map, ← contains_cast]; exact op_in_ints
theorem op_notin_iD {k : Nat} {l : List Nat} : Op2 Γ n (compareOp .NotIn) (.int (k : Nat)) (.list (iD l)) (.bool (!l.contains k)) := by
  rw [iD_map, ← contains_cast]; exact op_notin_ints

noncomputable def tx (ts : List (List Nat)) (p : Nat) : List Nat := ts.getD p []
theorem tx_get {ts : List (List Nat)} {p : Nat} (h : p < ts.length) : ts[p]? = some (tx ts p) := by
  unfold tx; rw [List.getD_eq_getElem?_getD, List.getElem?_eq_getElem h]; rfl
noncomputable def apart (one two : List Nat) (ts : List (List Nat)) : List (List Nat) := (one.filter fun p => !two.contains p).map (tx ts)

theorem fn_apart (L : Law Γ) {one two : List Nat} {ts : List (List Nat)} (hl : ts.length = 9) (h1 : ∀ p ∈ one, p ≤ 8) (hz : one.length ≤ 1000) : Fn Γ 4 [] 101 [.list (iD one), .list (iD two), .list (sD ts)] (.list (sD (apart one two ts))) := by
  refine fn_intro ["one", "two", "texts"] L.toOk L.d17 (fun A X s₀ env s E Q pm c doc he R F k => ?_) (hps := fun pm c doc vals hv => by obtain ⟨a, b, d, rfl⟩ := zip3 hv; rfl)
  subst he
  refine x_ret (d := .list (sD (apart one two ts))) (Ev.to (ev_compG (fun p : Nat => .int (p : Nat)) unI one (fun p => !two.contains p) (fun p => .str (tx ts p)) (fun a _ => by simp [unI]) (evi_list (ev_name rfl)) (fun C cl a ha => ?_) (fun C cl a ha _ => ?_) hz) ?_) R F k
  · exact tr_cmp (ev_name rfl) (ev_name rfl) op_notin_iD
  · exact ev_item (k := ((a : Nat) : Int)) (ev_name rfl) (ev_name rfl) (nn a) (lt62c (h1 a ha)) (sD_get (tx_get (by rw [hl]; exact Nat.lt_succ_of_le (h1 a ha))))
  · simp [apart, sD, List.map_map]

theorem ev_callFn (L : Law Γ) {x : Str} {p pos e es ds d} {a : Addr} {st : Stmt} (f : Defd Γ a st) (hc : Fn Γ n [] a ds d) (ha : Evs Γ n env ρ (e :: es) ds) (hx : nameOf st = x := by rfl) (hk : env.kindOf x = some .globalImplicit := by rfl)
    (hd : (x == ("__debug__" : Str)) = false := by decide) : Ev Γ n env ρ (.Call (.Name x p) (e :: es) [] pos) d :=
  ev_call L.toOk (hx ▸ f.isFn) hk ha hc hd

theorem fn_kind (L : Law Γ) {nm x : List Nat} : Fn Γ 3 [] 28 [.str nm, .str x] (.str []) := by
  refine fn_intro ["name", "x"] L.toOk L.d3 (fun A X s₀ env s E Q pm c doc he R F k => ?_) (hps := fun pm c doc vals hv => by obtain ⟨a, b, rfl⟩ := zip2 hv; rfl)
  subst he
  refine x_assign (ev_type L.toOk (T := "type") rfl (L.none _ (by decide)) (by decide +kernel) (.cons (ev_name rfl) rfl .nil) bi_type) R F fun s F => ?_
  refine x_if (b := true) (tr_cmp (ev_name rfl) (ev_bityp L.toOk (T := "str") rfl (L.none _ (by decide)) (by decide +kernel)) op_is_typ) R F (fun _ s F => ?_) (fun h => by cases h)
  exact x_ret ev_str R F k

theorem fn_fspath (L : Law Γ) {nm x : List Nat} : Fn Γ 5 [] 35 [.str nm, .str x] (.str x) := by
  refine fn_intro ["name", "x"] L.toOk L.d4 (fun A X s₀ env s E Q pm c doc he R F k => ?_) (hps := fun pm c doc vals hv => by obtain ⟨a, b, rfl⟩ := zip2 hv; rfl)
  subst he
  refine x_assign (ev_callFn L L.d3 ((fn_kind L).le (by decide)) (.cons (ev_name rfl) rfl (.cons (ev_name rfl) rfl .nil))) R F fun s F => ?_
  refine x_skip (tr_val (ev_name rfl) (tr_str (by decide))) R F fun s F => ?_
  exact x_ret (ev_name rfl) R F k
end Mine

namespace Mine
variable {Γ : Cfg} {n : Nat} {env : Env} {ρ : List (Str × D)} {X : List Addr} {s₀ s : Shared} {pins : List (Addr × Obj)} {π : Pv} {A : Around} {Q : Flow → Shared → Prop} {E : Value → Shared → Prop} {rest : List Stmt}

noncomputable abbrev sl (m : Nat) : List Nat := List.replicate m 47
noncomputable def NoEnd (P : List Nat) : Prop := P.getLast? ≠ some 47

theorem takeWhile_all_append {α : Type} (p : α → Bool) : ∀ (a b : List α), (∀ x ∈ a, p x = true) → (∀ x, b.head? = some x → p x = false) → (a ++ b).takeWhile p = a
  | [], [], _, _ => rfl
  | [], y :: r, _, h => by simp [h y rfl]
  | x :: a, b, h1, h2 => by
    rw [List.cons_append, List.takeWhile_cons, if_pos (h1 x (by simp)), takeWhile_all_append p a b (fun y hy => h1 y (by simp [hy])) h2]

theorem rstrip_eq {P : List Nat} (m : Nat) (h : NoEnd P) : Txt.rstripChars (mkS (P ++ sl m)) (mkS [47]) = mkS P := by
  unfold Txt.rstripChars
  rw [PyProof.Rows.stripBy_eq, strSub_mk]
  have h0 : stripLo (mkS [47]).cps.contains false (mkS (P ++ sl m)) = 0 := rfl
  rw [h0]
  have h1 : stripHi (mkS [47]).cps.contains true (mkS (P ++ sl m)) 0 = P.length := by
    simp only [stripHi, if_true, mkS_list, mkS_len, List.drop_zero]
    rw [List.reverse_append, takeWhile_all_append]
    · simp
    · intro x hx
      have : x = 47 := (List.mem_replicate.mp (List.mem_reverse.mp hx)).2
      subst this; simp [mkS]
    · intro x hx
      rw [List.head?_reverse] at hx
      have : x ≠ 47 := by rintro rfl; exact h hx
      simp [mkS, this]
  rw [h1, mkS_list]
  simp [mkS]

theorem rfind_eq {P e : List Nat} (m : Nat) (h : P = [] ∨ 0 < m) (he : 47 ∉ e) : Txt.rfind (mkS (P ++ sl m ++ e)) (mkS [47]) + 1 = ((P.length + m : Nat) : Int) := by
  unfold Txt.rfind
  have atI : ∀ i, StrLaws.At (mkS (P ++ sl m ++ e)) (mkS [47]) (mkS (P ++ sl m ++ e)).length i ↔ (P ++ sl m ++ e)[i]? = some 47 := fun i => by
    have := StrLaws.subAt_one (mkS (P ++ sl m ++ e)) 47 i
    rw [mkS_list] at this
    exact this
  have hi : ∀ i, P.length + m ≤ i → ¬ (P ++ sl m ++ e)[i]? = some 47 := fun i hi hx => by
    rw [List.getElem?_append_right (by simpa using hi)] at hx
    exact he (List.mem_of_getElem? hx)
  rcases StrLaws.last_spec (mkS (P ++ sl m ++ e)) (mkS [47]) with ⟨h1, h2⟩ | ⟨i, h1, h2, h3⟩
  · rw [h1]
    dsimp only
    have hm : m = 0 := by
      rcases Nat.eq_zero_or_pos m with h | h
      · exact h
      · refine absurd ((atI (P.length)).mpr ?_) (h2 _)
        rw [List.getElem?_append_left (by simp; omega), List.getElem?_append_right (Nat.le_refl _), List.getElem?_replicate, if_pos (by omega)]
    have hP : P = [] := by rcases h with h | h; exact h; omega
    subst hP hm; rfl
  · rw [h1]
    dsimp only
    rw [atI] at h2
    have hlt : i < P.length + m := by
      by_cases hlt : i < P.length + m
      · exact hlt
      · exact absurd h2 (hi i (by omega))
    have hge : P.length + m ≤ i + 1 := by
      by_cases hge : P.length + m ≤ i + 1
      · exact hge
      · exfalso
        have hm : 0 < m := by
          rcases h with h | h
          · subst h; simp at hlt; omega
          · exact h
        refine h3 (P.length + m - 1) (by omega) ((atI _).mpr ?_)
        rw [List.getElem?_append_left (by simp; omega), List.getElem?_append_right (by omega), List.getElem?_replicate, if_pos (by omega)]
    omega

noncomputable def headOf (P : List Nat) (m : Nat) : List Nat := if P = [] then sl m else P
theorem fn_split (L : Law Γ) {P e : List Nat} {m : Nat} (h : P = [] ∨ 0 < m) (hP : NoEnd P) (he : 47 ∉ e) (hz : P.length + m + e.length ≤ 1000) : Fn Γ 7 [] 42 [.str (P ++ sl m ++ e)] (.tup [.str (headOf P m), .str e]) := by
  refine fn_intro ["p"] L.toOk L.d5 (fun A X s₀ env s E Q pm c doc he' R F k => ?_) (hps := fun pm c doc vals hv => by obtain ⟨a, rfl⟩ := zip1 hv; rfl)
  subst he'
  have htake : (P ++ sl m ++ e).take (P.length + m) = P ++ sl m := List.take_left' (by simp)
  have hdrop : (P ++ sl m ++ e).drop (P.length + m) = e := List.drop_left' (by simp)
  refine x_assign (ev_callFn L L.d4 ((fn_fspath L).le (by decide)) (.cons ev_str rfl (.cons (ev_name rfl) rfl .nil))) R F fun s F => ?_
  refine x_assign ev_str R F fun s F => ?_
  refine x_assign (d := .int ((P.length + m : Nat) : Int)) (Ev.to (ev_bin (ev_rfind (ev_name rfl) (ev_name rfl)) ev_int op_add) (congrArg D.int (rfind_eq m h he))) R F fun s F => ?_
  refine x_tups ["head", "tail"] (ds := [.str (P ++ sl m), .str e]) (ev_tup (.cons (Ev.to (ev_supto (k := P.length + m) (ev_name rfl) (ev_name rfl) (by simp; omega)) (by rw [htake])) rfl (.cons (Ev.to (ev_sfrom (k := P.length + m) (ev_name rfl) (ev_name rfl) (by simp) (by simp; omega)) (by rw [hdrop])) rfl .nil))) R F (fun s F => ?_) (st_bind (st_bind .nil))
  refine x_if (b := !(P ++ sl m).isEmpty && ((P ++ sl m) != sl (P ++ sl m).length)) (tr_and (tr_val (ev_name rfl) (tr_str (by simp; omega))) (fun _ => tr_cmp (ev_name rfl) (ev_bin (ev_name rfl) (ev_bi L.toOk rfl (L.none _ (by decide)) (by decide +kernel) (.cons (ev_name rfl) rfl .nil) (bi_lens (by simp; omega))) (op_slash (by simp; omega))) op_nes)) R F (fun hb s F => ?_) (fun hb s F => ?_)
  · have hPne : P ≠ [] := by
      rintro rfl
      simp at hb
    refine x_assign (d := .str P) (Ev.to (ev_rstrip (ev_name rfl) (ev_name rfl) (by simp; omega)) (by show D.str (Txt.rstripChars (mkS (P ++ sl m)) (mkS [47])).cps.toList = _; rw [rstrip_eq m hP, mkS_list])) R F fun s F => ?_
    refine Go.nil ?_
    refine x_ret (ev_tup (.cons (ev_name rfl) rfl (.cons (ev_name rfl) rfl .nil))) R F ?_
    simpa [headOf, hPne] using k
  · have hPe : P = [] := by
      cases P with
      | nil => rfl
      | cons x r =>
        exfalso
        simp only [List.cons_append, List.isEmpty_cons, Bool.not_false, Bool.true_and, bne_eq_false_iff_eq] at hb
        have hmem : ∀ y ∈ x :: (r ++ sl m), y = 47 := fun y hy => by rw [hb] at hy; exact (List.mem_replicate.mp hy).2
        apply hP
        rw [List.getLast?_eq_some_getLast (by simp)]
        congr 1
        exact hmem _ (by have := List.getLast_mem (l := x :: r) (by simp); simp only [← List.cons_append]; exact List.mem_append_left _ this)
    subst hPe
    refine Go.nil ?_
    refine x_ret (ev_tup (.cons (ev_name rfl) rfl (.cons (ev_name rfl) rfl .nil))) R F ?_
    simpa [headOf] using k
end Mine

namespace Mine
variable {Γ : Cfg} {n : Nat} {env : Env} {ρ : List (Str × D)} {X : List Addr} {s₀ s : Shared} {pins : List (Addr × Obj)} {π : Pv} {A : Around} {Q : Flow → Shared → Prop} {E : Value → Shared → Prop} {rest : List Stmt}

/-! ## the told tree -/
noncomputable abbrev as' (m : Nat) : List Nat := List.replicate m 97
noncomputable def maxLen (ts : List (List Nat)) : Nat := ts.foldr (fun t m => max t.length m) 0
theorem le_maxLen : ∀ {ts : List (List Nat)} {t}, t ∈ ts → t.length ≤ maxLen ts
  | x :: r, t, h => by
    show t.length ≤ max x.length (maxLen r)
    rcases List.mem_cons.mp h with rfl | h
    · omega
    · have := le_maxLen h; omega
theorem maxLen_le {b : Nat} : ∀ {ts : List (List Nat)}, (∀ t ∈ ts, t.length ≤ b) → maxLen ts ≤ b
  | [], _ => Nat.zero_le _
  | x :: r, h => by
    show max x.length (maxLen r) ≤ b
    have h1 := h x (by simp)
    have h2 := maxLen_le (ts := r) fun t ht => h t (by simp [ht])
    omega
noncomputable def cnt (ts : List (List Nat)) (t : List Nat) : Nat := ((List.range (1 + maxLen ts)).find? fun j => !ts.contains (t ++ as' j)).getD (1 + maxLen ts)
theorem cnt_spec (ts : List (List Nat)) (t : List Nat) : (∀ j, j < cnt ts t → ts.contains (t ++ as' j) = true) ∧ ts.contains (t ++ as' (cnt ts t)) = false := by
  unfold cnt
  cases h : (List.range (1 + maxLen ts)).find? fun j => !ts.contains (t ++ as' j) with
  | none =>
    rw [List.find?_eq_none] at h
    simp only [Option.getD_none]
    refine ⟨fun j hj => by have := h j (List.mem_range.mpr hj); simpa using this, ?_⟩
    by_cases hc : ts.contains (t ++ as' (1 + maxLen ts)) = true
    · rw [List.contains_iff_mem] at hc
      have := le_maxLen hc
      simp at this; omega
    · simpa using hc
  | some i =>
    rw [List.find?_range_eq_some] at h
    simp only [Option.getD_some]
    obtain ⟨h1, h2, h3⟩ := h
    exact ⟨fun j hj => by simpa using h3 j hj, by simpa using h1⟩
theorem cnt_len (ts : List (List Nat)) (t : List Nat) {b : Nat} (h1 : ∀ x ∈ ts, x.length ≤ b) (h2 : t.length ≤ b + 1) : t.length + cnt ts t ≤ b + 1 := by
  by_cases h0 : cnt ts t = 0
  · omega
  · have := (cnt_spec ts t).1 (cnt ts t - 1) (by omega)
    rw [List.contains_iff_mem] at this
    have := h1 _ this
    simp at this; omega

noncomputable def marks : List (List Nat) := [[97], [98], [97, 45], [46], [46, 46], [97, 46, 98], [32], [10], [92], [233]]
noncomputable def nb (ns : List Int) (i : Nat) : Int := ns.getD i 0
noncomputable def upOf (ns : List Int) (k : Nat) : Nat := ((nb ns (k - 1)).fmod (k : Nat)).toNat
noncomputable def qOf (ns : List Int) (k : Nat) : Int := (nb ns (k - 1)).fdiv (k : Nat)
noncomputable def slOf (ns : List Int) (k : Nat) : Nat := ((qOf ns k).fmod 3).toNat + if upOf ns k = 0 then 0 else 1
noncomputable def mkOf (ns : List Int) (k : Nat) : List Nat := marks.getD (((qOf ns k).fdiv 3).fmod 10).toNat []
noncomputable def bareOf (ns : List Int) (ts : List (List Nat)) (k : Nat) : List Nat := tx ts (upOf ns k) ++ sl (slOf ns k) ++ mkOf ns k
noncomputable def newOf (ns : List Int) (ts : List (List Nat)) (k : Nat) : List Nat := bareOf ns ts k ++ as' (cnt ts (bareOf ns ts k))
noncomputable def texts (ns : List Int) : Nat → List (List Nat)
  | 0 => [[]]
  | j + 1 => texts ns j ++ [newOf ns (texts ns j) (j + 1)]
noncomputable def above (ns : List Int) : Nat → List Nat
  | 0 => [0]
  | j + 1 => above ns j ++ [upOf ns (j + 1)]
theorem texts_len (ns) : ∀ j, (texts ns j).length = j + 1
  | 0 => rfl
  | j + 1 => by simp [texts, texts_len ns j]
theorem above_len (ns) : ∀ j, (above ns j).length = j + 1
  | 0 => rfl
  | j + 1 => by simp [above, above_len ns j]
theorem fmod_pos (a : Int) {k : Nat} (h : 0 < k) : 0 ≤ a.fmod (k : Nat) ∧ a.fmod (k : Nat) < k := by
  rw [Int.fmod_eq_emod_of_nonneg _ (by omega)]
  exact ⟨Int.emod_nonneg _ (by omega), Int.emod_lt_of_pos _ (by omega)⟩
theorem upOf_lt (ns) {k} (h : 0 < k) : upOf ns k < k := by
  have := fmod_pos (nb ns (k - 1)) h
  unfold upOf; omega
theorem upOf_cast (ns) {k} (h : 0 < k) : (nb ns (k - 1)).fmod (k : Nat) = (upOf ns k : Nat) := by
  have := fmod_pos (nb ns (k - 1)) h
  unfold upOf; omega
theorem slOf_le (ns k) : slOf ns k ≤ 3 := by
  have := fmod_pos (qOf ns k) (k := 3) (by decide)
  unfold slOf
  have h3 : ((3 : Nat) : Int) = 3 := rfl
  rw [h3] at this
  split <;> omega
theorem mk_lt (ns k) : (((qOf ns k).fdiv 3).fmod 10).toNat < 10 ∧ 0 ≤ ((qOf ns k).fdiv 3).fmod 10 := by
  have := fmod_pos ((qOf ns k).fdiv 3) (k := 10) (by decide)
  have h3 : ((10 : Nat) : Int) = 10 := rfl
  rw [h3] at this
  omega
theorem mkOf_get (ns k) : marks[(((qOf ns k).fdiv 3).fmod 10).toNat]? = some (mkOf ns k) := by
  unfold mkOf
  rw [List.getD_eq_getElem?_getD, List.getElem?_eq_getElem (by exact (mk_lt ns k).1)]; rfl
theorem mkOf_mem (ns k) : mkOf ns k ∈ marks := List.mem_of_getElem? (mkOf_get ns k)
theorem mkOf_len (ns k) : (mkOf ns k).length ≤ 3 := by
  have : ∀ m ∈ marks, m.length ≤ 3 := by decide
  exact this _ (mkOf_mem ns k)
theorem texts_bound (ns : List Int) : ∀ j, ∀ t ∈ texts ns j, t.length ≤ 6 * j
  | 0, t, h => by simp [texts] at h; subst h; simp
  | j + 1, t, h => by
    have ih := texts_bound ns j
    unfold texts at h
    rcases List.mem_append.mp h with h | h
    · have := ih t h; omega
    · have ht : t = newOf ns (texts ns j) (j + 1) := by simpa using h
      subst ht
      have hb : (bareOf ns (texts ns j) (j + 1)).length ≤ 6 * j + 6 := by
        have h1 : (tx (texts ns j) (upOf ns (j + 1))).length ≤ 6 * j := by
          unfold tx
          rw [List.getD_eq_getElem?_getD]
          cases e : (texts ns j)[upOf ns (j + 1)]? with
          | none => simp
          | some x => simpa using ih x (List.mem_of_getElem? e)
        have h2 := slOf_le ns (j + 1)
        have h3 := mkOf_len ns (j + 1)
        unfold bareOf; simp; omega
      have := cnt_len (texts ns j) (bareOf ns (texts ns j) (j + 1)) (b := 6 * j + 5) (fun x hx => by have := ih x hx; omega) (by omega)
      unfold newOf; simp; omega
theorem nb_get {ns : List Int} {i : Nat} (h : i < ns.length) : (ns.map D.int)[i]? = some (.int (nb ns i)) := by
  unfold nb; rw [List.getElem?_map, List.getElem?_eq_getElem h, List.getD_eq_getElem?_getD, List.getElem?_eq_getElem h]; rfl
theorem bareOf_len (ns j) : (bareOf ns (texts ns j) (j + 1)).length ≤ 6 * j + 6 := by
  have h1 : (tx (texts ns j) (upOf ns (j + 1))).length ≤ 6 * j := by
    unfold tx
    rw [List.getD_eq_getElem?_getD]
    cases e : (texts ns j)[upOf ns (j + 1)]? with
    | none => simp
    | some x => simpa using texts_bound ns j x (List.mem_of_getElem? e)
  have h2 := slOf_le ns (j + 1)
  have h3 := mkOf_len ns (j + 1)
  unfold bareOf; simp; omega

theorem ev_strk {x : Str} {l : List Nat} {k pos} (h : x.cps.toList = l := by decide +kernel) : Ev Γ n env ρ (.Constant (.str x) k pos) (.str l) := h ▸ ev_str
theorem op_in_sD {k : List Nat} {l : List (List Nat)} : Op2 Γ n (compareOp .In) (.str k) (.list (sD l)) (.bool (l.contains k)) := op_in_strs

end Mine

namespace Mine
variable {Γ : Cfg} {n : Nat} {env : Env} {ρ : List (Str × D)} {X : List Addr} {s₀ s : Shared} {pins : List (Addr × Obj)} {π : Pv} {A : Around} {Q : Flow → Shared → Prop} {E : Value → Shared → Prop} {rest : List Stmt}
set_option maxHeartbeats 200000 in
theorem fn_places (L : Law Γ) {ns : List Int} (hn : ns.length = 8) : Fn Γ 104 [] 77 [.list (ns.map .int)] (.tup [.list (iD (above ns 8)), .list (sD (texts ns 8))]) := by
  refine fn_intro ["numbers"] L.toOk L.d13 (fun A X s₀ env s E Q pm c doc he' R F k => ?_) (hps := fun pm c doc vals hv => by obtain ⟨a, rfl⟩ := zip1 hv; rfl)
  subst he'
  refine x_assign (d := .list (sD marks)) (ev_list (.cons (ev_strk (l := [97])) rfl (.cons (ev_strk (l := [98])) rfl (.cons (ev_strk (l := [97, 45])) rfl (.cons (ev_strk (l := [46])) rfl (.cons (ev_strk (l := [46, 46])) rfl (.cons (ev_strk (l := [97, 46, 98])) rfl (.cons (ev_strk (l := [32])) rfl (.cons (ev_strk (l := [10])) rfl (.cons (ev_strk (l := [92])) rfl (.cons (ev_strk (l := [233])) rfl .nil))))))))))) R F fun s F => ?_
  refine x_new2 (ds := iD [0]) (ds' := sD [[]]) (.cons ev_int rfl .nil) (.cons ev_str rfl .nil) iD_sc sD_sc R F fun a b s F => ?_
  refine x_for (fun j => [("numbers", .list (ns.map .int)), ("marks", .list (sD marks))]) (fun j => [("texts", b, sD (texts ns j)), ("above", a, iD (above ns j))])
    (forIt_range2 (a := 1) (m := 8) L.toOk ev_int (Ev.to ev_int (by rfl)) (by decide) (by decide) rfl (L.none _ (by decide))) R F (fun d hd => ?_) (fun _ => rfl) (fun j d hd pins' s Q' E' F kn kr => ?_) (fun s F => ?_)
  · obtain ⟨i, _, rfl⟩ := List.mem_map.mp hd; trivial
  · have hj : j < 8 := by
      have := (List.getElem?_eq_some_iff.mp hd).1; simpa using this
    have hd' : d = D.int ((j + 1 : Nat) : Int) := by
      rw [List.getElem?_map, List.getElem?_range hj] at hd
      rw [← Option.some.inj hd]
      show D.int (1 + (j : Int)) = _
      congr 1; omega
    subst hd'
    have hk0 : 0 < j + 1 := Nat.succ_pos j
    have ej : ((j + 1 : Nat) : Int) - 1 = j := by omega
    have hjn : j < ns.length := hn ▸ hj
    have hk1 : ((j + 1 : Nat) : Int) ≠ 0 := by omega
    have hul := upOf_lt ns hk0
    have hul8 : upOf ns (j + 1) ≤ 8 := Nat.le_trans (Nat.le_of_lt hul) hj
    have hul2 : upOf ns (j + 1) < (texts ns j).length := by rw [texts_len]; exact hul
    have hsl := slOf_le ns (j + 1)
    have hq3 := fmod_pos (qOf ns (j + 1)) (k := 3) (by decide)
    have hbl := bareOf_len ns j
    refine x_tups ["up", "q"] (ds := [.int (upOf ns (j + 1) : Nat), .int (qOf ns (j + 1))])
      (ev_tup (.cons (Ev.to (ev_bin (ev_item (k := (j : Int)) (ev_name rfl) (Ev.to (ev_bin (ev_name rfl) ev_int op_sub) (congrArg D.int ej)) (nn j) (lt62b hj) (nb_get hjn)) (ev_name rfl) (op_mod hk1)) (congrArg D.int (upOf_cast ns hk0))) rfl
        (.cons (ev_bin (ev_item (k := (j : Int)) (ev_name rfl) (Ev.to (ev_bin (ev_name rfl) ev_int op_sub) (congrArg D.int ej)) (nn j) (lt62b hj) (nb_get hjn)) (ev_name rfl) (op_div L.toOk hk1 (by decide))) rfl .nil))) R F (fun s F => ?_) (st_bind (st_bind .nil))
    refine x_assignv (d := .str (bareOf ns (texts ns j) (j + 1))) (ev_bin (ev_bin (ev_item (k := ((upOf ns (j + 1) : Nat) : Int)) (ev_name rfl) (ev_name rfl) (nn _) (lt62c hul8) (sD_get (tx_get hul2)))
      (ev_bin (ev_strk (l := [47])) (Ev.to (ev_bin (ev_bin (ev_name rfl) ev_int (op_mod (by decide))) (ev_if (b := !(upOf ns (j + 1) == 0)) (d := .int (if upOf ns (j + 1) = 0 then 0 else 1)) ((tr_val (ev_name rfl) tr_int).to ?_) (fun hb => Ev.to ev_int ?_) (fun hb => Ev.to ev_int ?_)) op_add) ?_) (op_slash (m := slOf ns (j + 1)) (by omega))) (op_adds ?_))
      (ev_item (k := ((qOf ns (j + 1)).fdiv 3).fmod 10) (ev_name rfl) (ev_bin (ev_bin (ev_name rfl) ev_int (op_div L.toOk (by decide) (by decide))) ev_int (op_mod (by decide))) (mk_lt ns (j + 1)).2 (by have := (mk_lt ns (j + 1)).1; have := (mk_lt ns (j + 1)).2; omega) (sD_get (mkOf_get ns (j + 1)))) (op_adds ?_)) trivial R F fun s F => ?_
    · rw [Bool.eq_iff_iff]; simp
    · simp at hb; simp [hb]
    · simp at hb; simp [hb]
    · show D.int _ = D.int _
      congr 1
      have h3 : ((3 : Nat) : Int) = 3 := rfl
      rw [h3] at hq3
      unfold slOf; split <;> omega
    · unfold bareOf at hbl; simp at hbl ⊢; omega
    · unfold bareOf at hbl; simp at hbl ⊢; omega
    have e0 : bareOf ns (texts ns j) (j + 1) ++ as' 0 = bareOf ns (texts ns j) (j + 1) := by simp
    have hcl := cnt_len (texts ns j) (bareOf ns (texts ns j) (j + 1)) (b := 6 * j + 5) (fun x hx => by have := texts_bound ns j x hx; omega) (by omega)
    refine x_while (cnt (texts ns j) (bareOf ns (texts ns j) (j + 1))) (fun i => [("numbers", .list (ns.map .int)), ("marks", .list (sD marks)), ("k", .int ((j + 1 : Nat) : Int)), ("q", .int (qOf ns (j + 1))), ("up", .int (upOf ns (j + 1) : Nat)), ("text", .str (bareOf ns (texts ns j) (j + 1) ++ as' i))])
      (fun _ => [("texts", b, sD (texts ns j)), ("above", a, iD (above ns j))]) R (F.weak ?_) (fun i hi => ?_) ?_ (fun i hi s Q E F kk => ?_) (fun s F => ?_)
    · exact weak_cons rfl (weak_cons rfl (weak_cons rfl (weak_cons rfl (weak_cons rfl (weak_cons (by rw [e0]; rfl) weak_nil)))))
    · exact (tr_cmp (ev_name rfl) (ev_name rfl) op_in_sD).to ((cnt_spec _ _).1 i hi)
    · exact (tr_cmp (ev_name rfl) (ev_name rfl) op_in_sD).to (cnt_spec _ _).2
    · refine x_assign (d := .str (bareOf ns (texts ns j) (j + 1) ++ as' (i + 1))) (Ev.to (ev_bin (ev_name rfl) (ev_strk (l := [97])) (op_adds (by simp; omega))) (by rw [List.append_assoc, ← List.replicate_succ'])) R F fun s F => ?_
      exact Go.nil (kk s (F.weak (weak_cons rfl (weak_cons rfl (weak_cons rfl (weak_cons rfl (weak_cons rfl (weak_cons rfl weak_nil))))))))
    · refine x_append (π₁ := [("texts", b, sD (texts ns j))]) (π₂ := []) F (ev_name rfl) trivial iD_sc R (fun s F => ?_) rfl (by rw [iD_len, above_len]; exact Nat.le_trans hj (by decide))
      refine x_append (π₁ := []) F (ev_name rfl) trivial sD_sc R (fun s F => ?_) rfl (by rw [sD_len, texts_len]; exact Nat.le_trans hj (by decide))
      refine Go.nil (kn s ?_)
      have e1 : sD (texts ns (j + 1)) = sD (texts ns j) ++ [.str (newOf ns (texts ns j) (j + 1))] := by simp [texts, sD]
      have e2 : iD (above ns (j + 1)) = iD (above ns j) ++ [.int (upOf ns (j + 1) : Nat)] := by simp [above, iD]
      show Fm _ _ _ _ _ [("texts", b, sD (texts ns (j + 1))), ("above", a, iD (above ns (j + 1)))] _ s
      rw [e1, e2]
      exact F.weak (weak_cons rfl (weak_cons rfl weak_nil))
  · exact x_ret (ev_tup (.cons (ev_name rfl) rfl (.cons (ev_name rfl) rfl .nil))) R F k
end Mine

namespace Mine
variable {Γ : Cfg} {n : Nat} {env : Env} {ρ : List (Str × D)} {X : List Addr} {s₀ s : Shared} {pins : List (Addr × Obj)} {π : Pv} {A : Around} {Q : Flow → Shared → Prop} {E : Value → Shared → Prop} {rest : List Stmt}

/-! ## room within a generator -/
theorem room_func {body : List Stmt} (h : Room0 (n + 1) A) (hn : n < 100) : Room n (A.over (.func body env) []) := by
  obtain ⟨h1, h2, h3, ⟨l, h4⟩, h5⟩ := h
  refine ⟨⟨fun h3 => h1 (by omega), ?_, ?_, ⟨env :: l, ?_⟩, h5⟩, env, l, ?_, fun hh => absurd hh (by omega)⟩
  · show A.depth + frameCount [] + (Code.func body env).weight + n ≤ 800
    have : (Code.func body env).weight = 1 := rfl
    rw [this]; simp [frameCount]; omega
  · show A.units + PySem.unitsOf [] + (Code.func body env).cUnits + 40 * n ≤ 9000
    have : (Code.func body env).cUnits = 3 := rfl
    rw [this]; simp [PySem.unitsOf]; omega
  · show pushEnvs [env] (pushEnvs [] A.frames) = _
    rw [h4]; rfl
  · show pushEnvs [env] (pushEnvs [] A.frames) = _
    rw [h4]; rfl
theorem room_while {body : List Stmt} {t b o k g l p} (h : Room0 (n + 1) A) (hn : n < 100) : Room n (A.over (.whileLoop t b o env) [.ret k none g l (.func body env) p []]) := by
  obtain ⟨h1, h2, h3, ⟨l', h4⟩, h5⟩ := h
  refine ⟨⟨fun h3 => h1 (by omega), ?_, ?_, ⟨env :: l', ?_⟩, h5⟩, env, l', ?_, fun hh => absurd hh (by omega)⟩
  · show A.depth + frameCount [(Code.func body env, p)] + (Code.whileLoop t b o env).weight + n ≤ 800
    have h1 : (Code.func body env).weight = 1 := rfl
    have h2 : (Code.whileLoop t b o env).weight = 0 := rfl
    rw [frameCount_cons, h1, h2]; simp [frameCount]; omega
  · show A.units + PySem.unitsOf [(Code.func body env, p)] + (Code.whileLoop t b o env).cUnits + 40 * n ≤ 9000
    have h1 : (Code.func body env).cUnits = 3 := rfl
    have h2 : (Code.whileLoop t b o env).cUnits = 0 := rfl
    rw [unitsOf_cons, h1, h2]; simp [PySem.unitsOf]; omega
  · show pushEnvs [] (pushEnvs [env] A.frames) = _
    rw [h4]; rfl
  · show pushEnvs [] (pushEnvs [env] A.frames) = _
    rw [h4]; rfl

/-! ## the generator's text -/
noncomputable def ancParams : Arguments := match stAt 7 with
  | .FunctionDef _ a _ _ _ _ _ _ _ _ => a
  | _ => default
noncomputable def ancBody : List Stmt := match stAt 7 with
  | .FunctionDef _ _ b _ _ _ _ _ _ _ => b
  | _ => []
noncomputable def ancScope : Scope := match stAt 7 with
  | .FunctionDef _ _ _ _ _ _ s _ _ _ => s
  | _ => default
noncomputable def ancTest : Expr := match ancBody[1]? with
  | some (Stmt.While t _ _ _) => t
  | _ => default
noncomputable def ancLoop : List Stmt := match ancBody[1]? with
  | some (Stmt.While _ b _ _) => b
  | _ => []
noncomputable def genEnv (pm : Value) (c : Addr) (doc : Value) (L₀ : Addr) : Env := callEnvC (Calls.docDef "_ancestry" ancParams ancBody ancScope pm (.ref c) doc) L₀ 49

structure Anc (name : List Nat) (m : Nat) (t : Nat → List Nat) : Prop where
  strip : ∃ k, name = t 0 ++ sl k ∧ NoEnd (t 0) ∧ name.length ≤ 1000
  step : ∀ i, i < m → NoEnd (t i) ∧ t i ≠ [] ∧ (t i).length ≤ 1000 ∧ ∃ P k e, t i = P ++ sl k ++ e ∧ (P = [] ∨ 0 < k) ∧ NoEnd P ∧ 47 ∉ e ∧ headOf P k = t (i + 1)
  last : ∃ k, t m = sl k ∧ k ≤ 1000

theorem noEnd_nil : NoEnd [] := by simp [NoEnd]
section
variable {name : List Nat} {m : Nat} {t : Nat → List Nat} {pm : Value} {c L₀ : Addr} {doc : Value} {σ : Shared}

noncomputable def Rel (L : Addr) (s s' : Shared) : Prop := ∀ b o, s.heap.get? b = some o → b ≠ L → b ≠ 86 → b ≠ 103 ∧ NoDict o → s'.heap.get? b = some o
noncomputable def isDict (o : Obj) : Bool := match o.data with
  | .dict _ _ => true
  | _ => false
theorem isDict_iff {o : Obj} : isDict o = false ↔ NoDict o := by
  unfold isDict NoDict
  cases o.data <;> simp
noncomputable def pinsOf (L : Addr) (s : Shared) : List (Addr × Obj) := (List.range s.heap.objs.size).filterMap fun b => match s.heap.get? b with
  | some o => if b = L ∨ b = 86 ∨ b = 103 ∨ isDict o = true then none else some (b, o)
  | none => none
theorem pinsOf_iff {L : Addr} {s : Shared} {b : Addr} {o : Obj} : (b, o) ∈ pinsOf L s ↔ s.heap.get? b = some o ∧ b ≠ L ∧ b ≠ 86 ∧ b ≠ 103 ∧ NoDict o := by
  unfold pinsOf
  rw [List.mem_filterMap]
  constructor
  · rintro ⟨b', hb, h⟩
    split at h
    · rename_i o' e
      split at h
      · cases h
      · rename_i hne
        cases h
        exact ⟨e, fun h => hne (.inl h), fun h => hne (.inr (.inl h)), fun h => hne (.inr (.inr (.inl h))), isDict_iff.mp (by simpa using fun h => hne (.inr (.inr (.inr h))))⟩
    · cases h
  · rintro ⟨e, h1, h2, h3⟩
    refine ⟨b, List.mem_range.mpr (Heap.lt_size e), ?_⟩
    rw [e]
    exact if_neg (by rintro (h | h | h | h); exact h1 h; exact h2 h; exact h3.1 h; rw [isDict_iff.mpr h3.2] at h; cases h)
theorem Fm.rel {L : Addr} {s s' : Shared} (F : Fm Γ X env σ (pinsOf L s) π ρ s') : Rel L s s' := fun b o e h1 h2 h3 => (F.pin (b, o) (pinsOf_iff.mpr ⟨e, h1, h2, h3⟩)).1
theorem Fm.pinAll {s : Shared} (F : Fm Γ X env σ pins [] ρ s) (hc : env.cells = []) : Fm Γ X env σ (pinsOf env.locals s) [] ρ s :=
  ⟨F.base₀, F.step, F.fresh, F.cells, F.apart, F.st, F.priv, F.nodup, fun ⟨b, o⟩ hp => by
    obtain ⟨e, h1, h2, h3⟩ := pinsOf_iff.mp hp
    refine ⟨e, fun ho => ?_, h2, h3⟩
    rcases ho with h | ⟨y, h⟩ | h
    · exact h1 h
    · rw [hc] at h; cases h
    · simp [adr] at h⟩
theorem Fm.noPins {s : Shared} (F : Fm Γ X env σ pins π ρ s) : Fm Γ X env σ [] π ρ s :=
  ⟨F.base₀, F.step, F.fresh, F.cells, F.apart, F.st, F.priv, F.nodup, fun p hp => by cases hp⟩

noncomputable abbrev GR (Γ : Cfg) (X : List Addr) (env : Env) (σ : Shared) : GenEnd := fun n s₀ r s₁ => r = .ok (.ret .none) ∧ n = 0 ∧ Fm Γ X env σ [] [] [] s₁ ∧ Rel env.locals s₀ s₁
noncomputable abbrev GY (Γ : Cfg) (X : List Addr) (env : Env) (σ : Shared) (m : Nat) (t : Nat → List Nat) : Protocol := fun k s₀ v s' kap =>
  ∃ i, i + k + 1 = m ∧ (∃ tk, v = .str (mkS (t i)) tk) ∧ Fm Γ X env σ [] [] [("path", .str (t i))] s' ∧ Rel env.locals s₀ s' ∧ ∀ s'', Fm Γ X env σ [] [] [("path", .str (t i))] s'' → kap (.send .none) s''

theorem ev_sep (L : Law Γ) {pos} (hk : env.kindOf "sep" = some .globalImplicit := by rfl) : Ev Γ n env ρ (.Name "sep" pos) (.str [47]) := by
  obtain ⟨t, ht⟩ := L.sep
  exact ev_glob L.toOk hk ht

theorem anc_test (L : Law Γ) {x P : List Nat} {k : Nat} (hx : x = P ++ sl k) (hP : NoEnd P) (hz : x.length ≤ 1000) : Tr Γ n (genEnv pm c doc L₀) [("path", .str x)] ancTest (!P.isEmpty) := by
  subst hx
  refine tr_val (d := .str P) (Ev.to (ev_rstrip (ev_name rfl) (ev_sep L) (by omega)) ?_) (tr_str ?_)
  · rw [rstrip_eq k hP, mkS_list]
  · simp at hz; omega

theorem gen_loop (L : Law Γ) (N : Anc name m t) (Rm : Room0 10 A) (kk : Result → Sem Fin) (lv : List Value) (p : Pos)
    (hend : ∀ s₀ s, Fm Γ X (genEnv pm c doc L₀) σ [] [] [] s → Rel (genEnv pm c doc L₀).locals s₀ s → Seg Γ.M A (GR Γ X (genEnv pm c doc L₀) σ) (GY Γ X (genEnv pm c doc L₀) σ m t) 0 s₀ (.func ancBody (genEnv pm c doc L₀)) (kk (.ok .next)) [] s) :
    ∀ n i s₀ s, i + n = m → Fm Γ X (genEnv pm c doc L₀) σ (pinsOf (genEnv pm c doc L₀).locals s₀) [] [("path", .str (t i))] s →
      Seg Γ.M A (GR Γ X (genEnv pm c doc L₀) σ) (GY Γ X (genEnv pm c doc L₀) σ m t) n s₀ (.whileLoop ancTest ancLoop [] (genEnv pm c doc L₀)) (Γ.M.den (.whileLoop ancTest ancLoop [] (genEnv pm c doc L₀)))
        [.ret kk none false lv (.func ancBody (genEnv pm c doc L₀)) p []] s := by
  intro n
  induction n with
  | zero =>
    intro i s₀ s hi F
    have him : i = m := by omega
    subst him
    obtain ⟨k, hk, hk2⟩ := N.last
    refine seg_whileLoop (anc_test (n := 8) L (P := []) (k := k) (by simpa using hk) noEnd_nil (by rw [hk]; simpa using hk2) _ _ s _ _ (room_while (Rm.le (by decide)) (by decide)) F.view fun s₁ x₁ => ?_)
    rw [if_neg (by decide)]
    refine seg_execs_nil ?_
    exact seg_leaf (.ok .next) (hend _ _ ((F.go x₁).weak weak_nil).noPins (F.go x₁).rel)
  | succ n ih =>
    intro i s₀ s hi F
    obtain ⟨h1, h2, h3, P, k, e, h4, h5, h6, h7, h8⟩ := N.step i (by omega)
    refine seg_whileLoop (anc_test (n := 8) L (P := t i) (k := 0) (by simp) h1 h3 _ _ s _ _ (room_while (Rm.le (by decide)) (by decide)) F.view fun s₁ x₁ => ?_)
    rw [if_pos (by simpa using h2)]
    have F₁ := F.go x₁
    refine seg_execs_cons ?_
    refine seg_Expr_Yield rfl rfl rfl ((ev_name (Γ := Γ) (n := 8) (env := genEnv pm c doc L₀) (ρ := [("path", .str (t i))]) (x := "path") (d := .str (t i)) rfl : Ev Γ 8 _ _ _ _) _ _ s₁ _ _ (room_while (Rm.le (by decide)) (by decide)) F₁.view fun v s₂ rv x₂ kap hkap => ?_)
    obtain ⟨tk, rfl⟩ := rep_str.mp rv
    refine ⟨i, by omega, ⟨tk, rfl⟩, (F₁.go x₂).noPins, (F₁.go x₂).rel, fun s₃ F₃ => hkap .none s₃ ?_⟩
    have F₃ := F₃.pinAll rfl
    refine seg_execs_cons ?_
    refine seg_wrap ?_
    have hz : P.length + k + e.length ≤ 1000 := by rw [h4] at h3; simp at h3; omega
    refine e_tup (n := 8) ["path", "tail"] (ev_callFn L L.d5 ((fn_split L h5 h6 h7 hz).le (by decide)) (.cons (Ev.to (ev_name (d := .str (t i)) rfl) (by rw [h4])) rfl .nil)) (room_while (Rm.le (by decide)) (by decide)) F₃ (fun s₄ F₄ => ?_) (st_assign (st_assign .nil))
    refine seg_execs_nil (seg_again rfl (ih (i + 1) _ _ (by omega) ?_))
    rw [← h8]
    exact F₄.weak (weak_cons rfl weak_nil)
end
end Mine

namespace Mine
variable {Γ : Cfg} {n : Nat} {env : Env} {ρ : List (Str × D)} {X : List Addr} {s₀ s : Shared} {pins : List (Addr × Obj)} {π : Pv} {A : Around} {Q : Flow → Shared → Prop} {E : Value → Shared → Prop} {rest : List Stmt}
section
variable {name : List Nat} {m : Nat} {t : Nat → List Nat} {pm : Value} {c L₀ : Addr} {doc : Value} {σ : Shared}

theorem gen_start (L : Law Γ) (N : Anc name m t) (Rm : Room0 10 A) (s : Shared) (F : Fm Γ X (genEnv pm c doc L₀) σ [] [] [("path", .str name)] s) :
    Seg Γ.M A (GR Γ X (genEnv pm c doc L₀) σ) (GY Γ X (genEnv pm c doc L₀) σ m t) m s (.func ancBody (genEnv pm c doc L₀)) (Γ.M.den (.func ancBody (genEnv pm c doc L₀))) [] s := by
  obtain ⟨k, hk, hP, hz⟩ := N.strip
  have F := F.pinAll rfl
  refine seg_func (seg_execs_cons (seg_wrap ?_))
  refine wpAny_Assign_Name ((Ev.to (ev_rstrip (n := 8) (ρ := [("path", .str name)]) (l := name) (ev_name (x := "path") rfl) (ev_sep L) (by omega)) (e' := congrArg D.str (show _ = t 0 by rw [hk, rstrip_eq k hP, mkS_list])) : Ev Γ 8 _ _ _ _) _ _ s _ _ (room_func (Rm.le (by decide)) (by decide)) F.st fun v s₁ r x₁ => ?_)
  refine (F.go x₁).store r (.inl rfl) (by simp) fun s₂ F₂ => ?_
  refine seg_execs_cons (seg_While fun p => ?_)
  refine gen_loop L N Rm _ _ p (fun s₀' s' F' hr => ?_) m 0 _ _ (by omega) (F₂.weak (weak_cons rfl weak_nil))
  exact seg_end (.ok (.ret .none)) ⟨rfl, rfl, F', hr⟩
end
end Mine

namespace Mine
variable {Γ : Cfg} {n : Nat} {env : Env} {ρ : List (Str × D)} {X : List Addr} {s₀ s : Shared} {pins : List (Addr × Obj)} {π : Pv} {A : Around} {Q : Flow → Shared → Prop} {E : Value → Shared → Prop} {rest : List Stmt}
section
variable {name : List Nat} {m : Nat} {t : Nat → List Nat} {pm : Value} {c L₀ : Addr} {doc : Value} {σ₀ : Shared} {I : Addr} {oI : Obj}

/-- the path's text at the i-th waking -/
noncomputable def wk (name : List Nat) (t : Nat → List Nat) : Nat → List Nat
  | 0 => name
  | i + 1 => t i
noncomputable abbrev sg (σ₀ : Shared) : Shared := { σ₀ with gens := σ₀.gens.push .running }

structure GJ (Γ : Cfg) (X : List Addr) (env : Env) (A : Around) (σ₀ : Shared) (I : Addr) (oI : Obj) (name : List Nat) (m : Nat) (t : Nat → List Nat) (i : Nat) (s : Shared) : Prop where
  obj : s.heap.get? I = some oI
  fm : Fm Γ X env (sg σ₀) [] [] [("path", .str (wk name t i))] (s.setGen σ₀.gens.size .running)
  gen : ∃ gs, s.gens[σ₀.gens.size]? = some gs ∧ ∀ s', Fm Γ X env (sg σ₀) [] [] [("path", .str (wk name t i))] s' → gs.Goes Γ.M A (GR Γ X env (sg σ₀)) (GY Γ X env (sg σ₀) m t) (m - i) (.send .none) s'

theorem setGen_back {s : Shared} {g : Nat} {x y : GenState} (h : s.gens[g]? = some x) : (s.setGen g y).setGen g x = s := by
  have e : (s.gens.setIfInBounds g y).setIfInBounds g x = s.gens := by
    apply Array.ext_getElem?
    intro j
    rw [Array.getElem?_setIfInBounds, Array.getElem?_setIfInBounds, Array.size_setIfInBounds]
    by_cases hj : g = j
    · subst hj
      have := (Array.getElem?_eq_some_iff.mp h).1
      rw [if_pos rfl, if_pos this, h]
    · rw [if_neg hj, if_neg hj]
  show ({ s with gens := (s.gens.setIfInBounds g y).setIfInBounds g x } : Shared) = s
  rw [e]

theorem fm_gen {ρ : List (Str × D)} (F : Fm Γ X env (sg σ₀) pins [] ρ s) : s.gens[σ₀.gens.size]? = some .running := by
  obtain ⟨new, e, _⟩ := F.step.gens
  rw [e]
  rw [Array.getElem?_append_left (by simp)]
  simp

theorem gen_next (L : Law Γ) {B : Around} (Rm : Room0 12 B) {s : Shared} {i : Nat} (hIg : ∃ nm qn, oI = { cls := .type "generator", data := .fields #[.int σ₀.gens.size 0, nm, qn] }) (hI : I ≠ env.locals ∧ I ≠ 86 ∧ I ≠ 103)
    (J : GJ Γ X env B.in1 σ₀ I oI name m t i s) {Q : Option Value → Shared → Prop} {E : Value → Shared → Prop} (hi : i ≤ m)
    (k1 : i < m → ∀ tk s', GJ Γ X env B.in1 σ₀ I oI name m t (i + 1) s' → Rel env.locals s s' → Q (some (.str (mkS (t i)) tk)) s')
    (k2 : i = m → ∀ s', Step Γ [] σ₀ s' → Rel env.locals s s' → Q none s') : wpAny Γ.M B (pyNext (.ref I)) Q E s := by
  obtain ⟨nm, qn, hIg⟩ := hIg
  obtain ⟨gs, hgs, hgo⟩ := J.gen
  have lim : s.heap.NoLimit := J.fm.base.lim L.toOk
  refine wpAny_pyNext_gen (n := m - i) (P := fun n s₀ s₁ => n = 0 ∧ Fm Γ X env (sg σ₀) [] [] [] s₁ ∧ Rel env.locals s₀ s₁) (Y := GY Γ X env (sg σ₀) m t) (Rm.1 (by decide)) lim Rm.depth ⟨oI, nm, qn, J.obj, by rw [hIg], by rw [hIg], by rw [hIg]⟩ hgs (hgo _ J.fm) (fun v s₁ gs' hY => ?_) (fun s₁ hP h' hk => ?_)
  · obtain ⟨i', h1, ⟨tk, rfl⟩, F₁, hr, hg'⟩ := hY
    by_cases hlt : i < m
    · have hi' : i' = i := by omega
      subst hi'
      refine k1 hlt tk _ ⟨hr I oI J.obj hI.1 hI.2.1 ⟨hI.2.2, by rw [hIg]; intro es n h; cases h⟩, ?_, gs', ?_, fun s' F' => ?_⟩ hr
      · rw [setGen_back (fm_gen F₁)]; exact F₁
      · show (s₁.gens.setIfInBounds _ _)[_]? = _
        rw [Array.getElem?_setIfInBounds, if_pos rfl, if_pos (Array.getElem?_eq_some_iff.mp (fm_gen F₁)).1]
      · have := hg' s' F'
        obtain ⟨q, hq⟩ : ∃ q, m - i' = q + 1 := ⟨m - i' - 1, by omega⟩
        rw [hq] at this
        have e2 : m - (i' + 1) = q := by omega
        rw [e2]; exact this
    · exfalso
      have hz : m - i = 0 := by omega
      have := hg' s₁ F₁
      rw [hz] at this
      exact this
  · obtain ⟨h0, F₁, hr⟩ := hP
    refine k2 (by omega) _ ?_ fun b o e h1 h2 h3 => hk b o (hr b o e h1 h2 h3)
    have x := F₁.step
    obtain ⟨new, e, ha⟩ := x.gens
    have hb : ∀ {X}, Base Γ X σ₀.heap → Base Γ X h' := fun b => (x.base (X := _) b).keeps hk
    refine ⟨fun b o e hb h1 h2 => hk b o (x.keep b o e hb h1 h2), fun b o e h1 h2 => (let ⟨sl, e'⟩ := x.frm b o e h1 h2; ⟨sl, hk b _ e'⟩), hb, ⟨#[.finished] ++ new, ?_, fun z hz => ?_⟩, x.os, x.drawn⟩
    · show s₁.gens.setIfInBounds _ _ = _
      rw [e]
      apply Array.ext'
      simp [Array.toList_append]
    · rcases Array.mem_append.mp hz with h | h
      · have : z = .finished := by simpa using h
        subst this; rfl
      · exact ha z h
end
end Mine

namespace Mine
variable {Γ : Cfg} {n : Nat} {env : Env} {ρ : List (Str × D)} {X : List Addr} {s₀ s : Shared} {pins : List (Addr × Obj)} {π : Pv} {A : Around} {Q : Flow → Shared → Prop} {E : Value → Shared → Prop} {rest : List Stmt}
section
variable {name : List Nat} {m : Nat} {t : Nat → List Nat} {pm : Value} {c L₀ : Addr} {doc : Value} {σ₀ : Shared} {I : Addr} {oI : Obj}

/-- a younger object changes; the names hold texts alone -/
theorem Fm.other {x : Str} {tx : List Nat} {σ s' : Shared} {S : Addr} (F : Fm Γ X env σ [] [] [(x, .str tx)] s) (hS : σ.heap.get? S = none) (hc : env.cells = []) (hL : S ≠ env.locals) (u : Upd S s s')
    (hN : ∀ o, s.heap.get? S = some o → NotCode o) (hlk : env.kindOf x = some .local) : Fm Γ X env σ [] [] [(x, .str tx)] s' := by
  obtain ⟨m, hn, hv⟩ := F.st.vars
  have hX : S ∉ adr [] ++ X := fun hm => by
    obtain ⟨o, e, _⟩ := F.base₀.priv S (by simpa [adr] using hm)
    rw [hS] at e; cases e
  refine ⟨F.base₀, F.step.upd F.base₀ hS u hN, F.fresh, fun y c hc' => (by rw [hc] at hc'; cases hc'), F.apart, ⟨F.base.upd u (fresh_ne F.base₀ hS) hN hX, F.st.glob, m, ns_upd u (Ne.symm hL) hn, fun y e hy => ?_⟩, by simp, F.nodup, by simp⟩
  obtain ⟨v', hr, hh⟩ := hv y e hy
  rw [List.lookup_cons] at hy
  split at hy
  · rename_i hyx
    have : y = x := by simpa using hyx
    subst this
    cases hy
    refine ⟨v', ?_, hh.imp id ?_⟩
    · obtain ⟨tk, rfl⟩ := rep_str.mp hr; exact rep_str.mpr ⟨tk, rfl⟩
    · rintro ⟨hk, _⟩; rw [hlk] at hk; rcases hk with h | h <;> cases h
  · cases hy

theorem GJ.upd {B : Around} {s s' : Shared} {i : Nat} {S : Addr} (J : GJ Γ X env B σ₀ I oI name m t i s) (hS : σ₀.heap.get? S = none) (hc : env.cells = []) (hL : S ≠ env.locals) (hI : I ≠ S) (u : Upd S s s')
    (hN : ∀ o, s.heap.get? S = some o → NotCode o) (hlk : env.kindOf "path" = some .local) : GJ Γ X env B σ₀ I oI name m t i s' := by
  refine ⟨u.at hI J.obj, Fm.other (S := S) J.fm hS hc hL ?_ hN hlk, ?_⟩
  · obtain ⟨h', tk, rfl, k⟩ := u
    exact ⟨h', tk, rfl, k⟩
  · obtain ⟨h', tk, rfl, k⟩ := u
    exact J.gen

theorem gen_list (L : Law Γ) {B : Around} (Rm : Room0 13 B) (hIg : ∃ nm qn, oI = { cls := .type "generator", data := .fields #[.int σ₀.gens.size 0, nm, qn] }) (hI : I ≠ env.locals ∧ I ≠ 86 ∧ I ≠ 103) {S : Addr} (hS : σ₀.heap.get? S = none) (hSB : Base Γ X σ₀.heap) (hc : env.cells = []) (hL : S ≠ env.locals) (hIS : I ≠ S)
    (hlk : env.kindOf "path" = some .local) (hm : m ≤ 1000) {R : Result → Shared → Prop} :
    ∀ (k i : Nat) (s : Shared) (acc : Array Value) (cc : Nat), m - i = k → i ≤ m → GJ Γ X env B.in1.in1 σ₀ I oI name m t i s → s.heap.get? S = some { cls := .type "list", dict := none, data := .seq acc cc, slots := #[] } →
    ItemsOf (fun j v => ∃ tk, v = .str (mkS (t j)) tk) acc i →
    (∀ s' acc' c', Step Γ [] σ₀ s' → s'.heap.get? S = some { cls := .type "list", dict := none, data := .seq acc' c', slots := #[] } → ItemsOf (fun j v => ∃ tk, v = .str (mkS (t j)) tk) acc' m → R (.ok (.ret .none)) s') →
    codeAny Γ.M B (.builtin "list.extend.loop" ⟨[.ref S, .ref I, .none], []⟩) R s := by
  obtain ⟨_, hS86, hS103⟩ := fresh_ne hSB hS
  intro k
  induction k with
  | zero =>
    intro i s acc cc hk hi J hSo hacc hR
    refine codeAny_builtin F.entry_extend_loop ?_
    rw [Around.under_plainId F.plain_extend_loop _]
    show wpAny _ B.in1 (pyNext (.ref I) >>= _) _ _ s
    refine wpAny_bind (gen_next L (Rm.in1) hIg hI J hi (fun h => by omega) fun him s' x hr => ?_)
    subst him
    exact wpAny_pure (hR s' acc cc x (hr S _ hSo hL hS86 ⟨hS103, by intro es n h; cases h⟩) hacc)
  | succ k ih =>
    intro i s acc cc hk hi J hSo hacc hR
    refine codeAny_builtin F.entry_extend_loop ?_
    rw [Around.under_plainId F.plain_extend_loop _]
    show wpAny _ B.in1 (pyNext (.ref I) >>= _) _ _ s
    refine wpAny_bind (gen_next L (Rm.in1) hIg hI J hi (fun hlt tk s' J' hr => ?_) fun h => by omega)
    have hS' := hr S _ hSo hL hS86 ⟨hS103, by intro es n h; cases h⟩
    show wpAny _ B.in1 (updateSeq S (·.push (.str (mkS (t i)) tk)) >>= _) _ _ _
    refine wpAny_bind ?_
    refine wpAny_updateSeq hS' rfl (wpAny_pure ⟨plainId_quiet F.plain_extend_loop _, ih (i + 1) _ (acc.push (.str (mkS (t i)) tk)) _ (by omega) hlt ?_ (Heap.get?_update_self _ hS' rfl) (hacc.push ⟨tk, rfl⟩) hR⟩)
      (by rw [hacc.1]; unfold sizeLine; omega) (by show (acc.push _).size ≤ sizeLine + 1; rw [Array.size_push, hacc.1]; unfold sizeLine; omega)
    refine J'.upd hS hc hL hIS ⟨_, s'.toks, rfl, fun b o hb e => (Heap.get?_update_other _ _ (Ne.symm hb)).trans e⟩ (fun o e => ?_) hlk
    rw [hS'] at e; cases e; exact notCode_seq rfl
end
end Mine

namespace Mine
variable {Γ : Cfg} {n : Nat} {env : Env} {ρ : List (Str × D)} {X : List Addr} {s₀ s : Shared} {pins : List (Addr × Obj)} {π : Pv} {A : Around} {Q : Flow → Shared → Prop} {E : Value → Shared → Prop} {rest : List Stmt}
section
variable {name : List Nat} {m : Nat} {t : Nat → List Nat} {pm : Value} {c L₀ : Addr} {doc : Value} {σ₀ : Shared} {I : Addr} {oI : Obj}

theorem items_strs {h : Heap} : ∀ {m : Nat} {acc : Array Value}, ItemsOf (fun j v => ∃ tk, v = .str (mkS (t j)) tk) acc m → RepL X h ((List.range m).map fun j => .str (t j)) acc.toList := fun {m acc} hacc => by
  have key : ∀ (vs : List Value) (k : Nat), (∀ j v, vs[j]? = some v → ∃ tk, v = Value.str (mkS (t (k + j))) tk) → RepL X h ((List.range' k vs.length).map fun j => D.str (t j)) vs := by
    intro vs
    induction vs with
    | nil => intro k _; simpa using repL_nil.mpr rfl
    | cons v r ih =>
      intro k hv
      rw [List.length_cons, List.range'_succ, List.map_cons]
      refine repL_cons.mpr ⟨v, r, rfl, rep_str.mpr (by simpa using hv 0 v rfl), ih (k + 1) fun j u hu => ?_⟩
      have := hv (j + 1) u hu
      rwa [show k + (j + 1) = k + 1 + j by omega] at this
  have := key acc.toList 0 (fun j v hv => by simpa using hacc.2 j v (by simpa using hv))
  have hl : acc.toList.length = m := by simpa using hacc.1
  rw [hl, ← List.range_eq_range'] at this
  exact this

theorem list_of_gen (L : Law Γ) (Rm : Room0 14 A) (hIg : ∃ nm qn, oI = { cls := .type "generator", data := .fields #[.int σ₀.gens.size 0, nm, qn] }) (hI : I ≠ env.locals ∧ I ≠ 86 ∧ I ≠ 103) (hSB : Base Γ X σ₀.heap) (hc : env.cells = [])
    (hlk : env.kindOf "path" = some .local) (hm : m ≤ 1000) {s : Shared} {Q : Value → Shared → Prop} {E : Value → Shared → Prop} (J : GJ Γ X env A.in1.in1.in1 σ₀ I oI name m t 0 s)
    (hQ : ∀ S s' acc c', Step Γ [] σ₀ s' → σ₀.heap.get? S = none → s'.heap.get? S = some { cls := .type "list", dict := none, data := .seq acc c', slots := #[] } → RepL X s'.heap ((List.range m).map fun j => .str (t j)) acc.toList → Q (.ref S) s') : wpAny Γ.M A (call (.type "list") [.ref I]) Q E s := by
  have hsz : s.heap.get? s.heap.objs.size = none := Heap.get?_none_of_le (Nat.le_refl _)
  have hS : σ₀.heap.get? s.heap.objs.size = none := by
    have : (s.setGen σ₀.gens.size .running).heap.get? s.heap.objs.size = none := hsz
    exact fresh_back (s := sg σ₀) J.fm.step hSB this
  have hIS : I ≠ s.heap.objs.size := fun e => by have := J.obj; rw [e, hsz] at this; cases this
  have hLS : s.heap.objs.size ≠ env.locals := fun e => by
    obtain ⟨m', ⟨o, es, ep, e1, _⟩, _⟩ := J.fm.st.vars
    have e1 : s.heap.get? env.locals = some o := e1
    rw [← e, hsz] at e1; cases e1
  refine callType_codes (Q₁ := fun obj s₁ => obj = .ref s.heap.objs.size ∧ s₁ = { s with heap := s.heap.push { cls := .type "list", data := .seq #[] } }) F.called_list (F.typeCall_list_1 _) F.entry_list_init
    (code_list_new _ ⟨rfl, rfl⟩) fun obj s₁ h₁ => ?_
  obtain ⟨rfl, rfl⟩ := h₁
  generalize hSS : s.heap.objs.size = S at *
  have hS₁ : (s.heap.push { cls := .type "list", data := .seq #[] }).get? S = some { cls := .type "list", data := .seq #[] } := hSS ▸ Heap.get?_push_size _ rfl
  have J₁ : GJ Γ X env A.in1.in1.in1 σ₀ I oI name m t 0 { s with heap := s.heap.push { cls := .type "list", data := .seq #[] } } :=
    J.upd hS hc hLS hIS ⟨_, s.toks, rfl, fun b o _ e => Heap.get?_push_of_some _ e⟩ (fun o e => by rw [hsz] at e; cases e) hlk
  have hT : ∀ {s' : Shared}, s'.heap.get? I = some oI → s'.TypeIs (.ref I) "generator" := fun {s'} e => by
    obtain ⟨nm, qn, h⟩ := hIg
    exact ⟨oI, e, by rw [h]⟩
  have hG : ∀ {s' : Shared}, s'.heap.get? I = some oI → s'.heap.IsGen I σ₀.gens.size := fun {s'} e => by
    obtain ⟨nm, qn, h⟩ := hIg
    exact ⟨oI, nm, qn, e, by rw [h], by rw [h], by rw [h]⟩
  refine ⟨⟨_, hS₁, rfl⟩, F.args_list_init_2 _ _, ?_⟩
  show wpAny _ A.in1.in1 (do let old ← Builtin.List.listItems (.ref S); Builtin.List.listUpdate (.ref S) (fun _ => #[]); letGo old.toList.reverse; Builtin.List.listExtendWith (.ref S) (.ref I) .none) _ _ _
  refine wpAny_bind ?_
  unfold Builtin.List.listItems
  refine wpAny_bind (wpAny_seqItems hS₁ rfl (wpAny_pure ?_))
  show wpAny _ A.in1.in1 (updateSeq S (fun _ => #[]) >>= fun _ => letGo (#[] : Array Value).toList.reverse >>= fun _ => Builtin.List.listExtendWith (.ref S) (.ref I) .none) _ _ _
  refine wpAny_bind (wpAny_updateSeq hS₁ rfl ?_)
  have hS₂ := Heap.get?_update_self (Obj.mapSeq (fun _ => (#[] : Array Value))) hS₁ rfl
  have J₂ := J₁.upd hS hc hLS hIS ⟨_, s.toks, rfl, fun b o hb e => (Heap.get?_update_other _ (Obj.mapSeq (fun _ => (#[] : Array Value))) (Ne.symm hb)).trans e⟩ (fun o e => by rw [hS₁] at e; cases e; exact notCode_seq rfl) hlk
  refine wpAny_bind (wpAny_letGo ?_)
  have hSI : S ≠ I := Ne.symm hIS
  unfold Builtin.List.listExtendWith
  refine wpAny_bind (wpAny_typeOf (hT J₂.obj) ?_)
  have h1 : Builtin.List.listSameRef (.ref S) (.ref I) = false := by simp [Builtin.List.listSameRef, hSI]
  have h2 : (Value.type "generator" == Value.type "list") = false := by decide
  have h3 : (Value.type "generator" == Value.type "tuple") = false := by decide
  simp only [h1, h2, h3, Bool.or_false, Bool.false_eq_true, if_false]
  refine wpAny_bind (wpAny_pyIter_gen (hG J₂.obj) ?_)
  refine wpAny_bind (wpAny_holding ?_)
  unfold Builtin.List.listLengthHint
  refine wpAny_bind (wpAny_specialOf (hT J₂.obj) F.gen_no_len ?_)
  show wpAny _ A.in1.in1 (specialOf (Value.ref I) (Str.ofString "__length_hint__") >>= _) _ _ _
  refine wpAny_bind (wpAny_specialOf (hT J₂.obj) F.gen_no_hint ?_)
  refine wpAny_pure ?_
  show wpAny _ A.in1.in1 (rule "list.extend.makes-room" >>= fun _ => Builtin.List.listTouch (.ref S) >>= fun _ =>
    again (.builtin "list.extend.loop" ⟨[.ref S, .ref I, .none], []⟩)) _ _ _
  refine wpAny_bind (wpAny_rule ?_)
  refine wpAny_bind ?_
  show wpAny _ A.in1.in1 (updateSeq S (·.push .none) >>= fun _ => updateSeq S (·.pop)) _ _ _
  refine wpAny_bind (wpAny_updateSeq hS₂ rfl ?_)
  have hS₃ := Heap.get?_update_self (Obj.mapSeq (·.push Value.none)) hS₂ rfl
  have J₃ := J₂.upd hS hc hLS hIS ⟨_, s.toks, rfl, fun b o hb e => (Heap.get?_update_other _ (Obj.mapSeq (·.push Value.none)) (Ne.symm hb)).trans e⟩ (fun o e => by rw [hS₂] at e; cases e; exact notCode_seq rfl) hlk
  refine wpAny_updateSeq (hz := by seq_fits) hS₃ rfl ?_
  have hS₄ := Heap.get?_update_self (Obj.mapSeq (·.pop)) hS₃ rfl
  have J₄ := J₃.upd hS hc hLS hIS ⟨_, s.toks, rfl, fun b o hb e => (Heap.get?_update_other _ (Obj.mapSeq (·.pop)) (Ne.symm hb)).trans e⟩ (fun o e => by rw [hS₃] at e; cases e; exact notCode_seq rfl) hlk
  refine wpAny_pure ⟨plainId_quiet F.plain_extend_loop _, gen_list (B := A.in1) L (Rm.in1) hIg hI hS hSB hc hLS hIS hlk hm m 0 _ #[] _ (by omega) (Nat.zero_le _) J₄ hS₄ (ItemsOf.nil _) fun s' acc' c' x hS' hacc => ?_⟩
  exact ⟨rfl, hQ S s' acc' c' x hS hS' (items_strs hacc)⟩
end
end Mine

namespace Mine
variable {Γ : Cfg} {n : Nat} {env : Env} {ρ : List (Str × D)} {X : List Addr} {s₀ s : Shared} {pins : List (Addr × Obj)} {π : Pv} {A : Around} {Q : Flow → Shared → Prop} {E : Value → Shared → Prop} {rest : List Stmt}
section
variable {name : List Nat} {m : Nat} {t : Nat → List Nat}

theorem anc_raw (L : Law Γ) (N : Anc name m t) (hm : m ≤ 1000) {p p2 e pos pos2} (he : Ev Γ n env ρ e (.str name)) (hn : 16 ≤ n) (hs : starEach [e] env = [(false, eval e env)] := by rfl)
    (hk : env.kindOf "list" = some .globalImplicit := by rfl) (hk2 : env.kindOf "_ancestry" = some .globalImplicit := by rfl)
    {A : Around} {X : List Addr} {s : Shared} {Q : Value → Shared → Prop} {E : Value → Shared → Prop} (R : Room n A) (S : St Γ X env ρ s)
    (k : ∀ S' s' acc c', Step Γ [] s s' → s.heap.get? S' = none → s'.heap.get? S' = some { cls := .type "list", dict := none, data := .seq acc c', slots := #[] } → RepL X s'.heap ((List.range m).map fun j => .str (t j)) acc.toList → Q (.ref S') s') :
    wpAny Γ.M A (eval (.Call (.Name "list" p) [.Call (.Name "_ancestry" p2) [e] [] pos2] [] pos) env) Q E s := by
  obtain ⟨pm, c, doc, o, h1, h2, h3, h4, h5, h6, h7, h8⟩ := (show ∃ pm c doc o, Γ.h.get? 49 = some o ∧ o.data = .func (Calls.docDef "_ancestry" ancParams ancBody ancScope pm (.ref c) doc) ∧ Γ.h.CodeRec (.ref c) "_ancestry" ∧
    Γ.mg "_ancestry" = some (.ref 49) ∧ 49 ≠ 86 ∧ 49 ≠ 103 ∧ c ≠ 86 ∧ c ≠ 103 from L.d7)
  refine wpAny_Call_NameR (wp_bi (v := .type "list") L.toOk S hk (L.none _ (by decide)) (by decide +kernel) ?_)
  refine PySem.callWith_type rfl (Calls.evalArgs_plain (Calls.spliced_cons ?_))
  change wpAny Γ.M A (eval (.Call (.Name "_ancestry" p2) [e] [] pos2) env) _ E s
  refine wpAny_Call_NameR (wp_glob L.toOk S hk2 h4 ?_)
  refine Calls.callWith_function (o := o) (fd := Calls.docDef "_ancestry" ancParams ancBody ancScope pm (.ref c) doc) (evs_args (.cons he hs .nil) R S fun vs s₁ r₁ x₁ => ⟨⟨(x₁.base S.base).old _ _ h1 h5 h6, h2⟩, ?_⟩)
  have B := x₁.base S.base
  obtain ⟨v, rfl, hv⟩ := repL1 (r₁)
  refine wpAny_call (codeAny_call_generator R.1.depth (B.old _ _ h1 h5 h6) h2 rfl rfl rfl (B.code h3 h7 h8) ?_)
  have hbind : bindArgs (Calls.docDef "_ancestry" ancParams ancBody ancScope pm (.ref c) doc) ⟨[v], []⟩ = (pure [(("path" : Str), v)] : Sem (List (Str × Value))) := rfl
  refine wpAny_of_eq hbind (wpAny_newFunctionEnv_cells rfl (fun x hx => ?_) fun env' he' s' IC => ?_)
  · have : x = (("path" : Str), v) := by simpa using hx
    subst this
    exact .inl rfl
  have he' : env' = genEnv pm c doc s₁.heap.objs.size := he'
  subst he'
  refine ⟨(B.lim L.toOk).keeps IC.toInCall.keep, ?_⟩
  refine Calls.spliced_nil ?_
  have hL : s₁.heap.get? (genEnv pm c doc s₁.heap.objs.size).locals = none := Heap.get?_none_of_le (Nat.le_refl _)
  obtain ⟨h', tk, rfl⟩ := IC.toInCall.same
  have hlt : s₁.heap.objs.size < h'.objs.size := by
    obtain ⟨oL, es, ep, e1, _⟩ := IC.toInCall.ns
    exact Heap.lt_size e1
  have keep2 : ∀ (o2 : Obj) b o, s₁.heap.get? b = some o → (h'.push o2).get? b = some o := fun o2 b o e => Heap.get?_push_of_some _ (IC.toInCall.keep b o e)
  have hIn : s₁.heap.get? h'.objs.size = none := Heap.get?_none_of_le (Nat.le_of_lt hlt)
  obtain ⟨_, hI86, hI103⟩ := fresh_ne B hIn
  refine list_of_gen (t := t) (m := m) (name := name) (env := genEnv pm c doc s₁.heap.objs.size) (σ₀ := s₁) L (R.1.le hn |>.le (by decide)) ⟨_, _, rfl⟩ ⟨Ne.symm (Nat.ne_of_lt hlt), hI86, hI103⟩ B rfl rfl hm ⟨Heap.get?_push_size _ rfl, ?_, .fresh (.func ancBody (genEnv pm c doc s₁.heap.objs.size)), ?_, fun s'' F'' => ⟨rfl, ?_⟩⟩ fun S₂ s₂ acc c' x₂ hf hS' hr' => k S₂ s₂ acc c' (x₁.trans x₂) (fresh_back x₁ S.base hf) hS' hr'
  · have xs : Step Γ [] (sg s₁) (Shared.setGen { s₁ with gens := s₁.gens.push (.fresh (.func ancBody (genEnv pm c doc s₁.heap.objs.size))), toks := tk + 1 + 1, heap := h'.push { cls := .type "generator", data := .fields #[.int s₁.gens.size 0, .str "_ancestry" tk, .str "_ancestry" (tk + 1)] } } s₁.gens.size .running) := by
      refine ⟨fun b o e _ _ _ => keep2 _ b o e, fun b o e _ _ => ⟨o.slots, keep2 _ b o e⟩, fun b => b.keeps (keep2 _), ⟨#[], ?_, AllBare.empty⟩, rfl, rfl⟩
      show (s₁.gens.push _).setIfInBounds s₁.gens.size .running = s₁.gens.push .running ++ #[]
      apply Array.ext'
      simp
    refine ⟨B, xs, fun I' hI => ?_, fun y c' hc' => (by cases hc'), List.Pairwise.nil, ⟨xs.base B, ⟨rfl, rfl, rfl⟩, _, IC.toInCall.ns.keeps fun b o e => Heap.get?_push_of_some _ e, fun x d hx => ?_⟩, by simp, by simp [adr], by simp⟩
    · rcases hI with rfl | ⟨y, h⟩ | h
      · exact hL
      · cases h
      · simp [adr] at h
    · rw [List.lookup_cons] at hx
      split at hx
      · rename_i hxy
        have : x = "path" := by simpa using hxy
        subst this
        cases hx
        refine ⟨v, ?_, .inl ⟨rfl, ?_⟩⟩
        · obtain ⟨tk', rfl⟩ := rep_str.mp hv; exact rep_str.mpr ⟨tk', rfl⟩
        · exact bindL_look (x := "path") (binds := [(("path" : Str), v)]) rfl (by simp) (by simp)
      · cases hx
  · show (s₁.gens.push _)[s₁.gens.size]? = _
    simp
  · exact gen_start L N (((R.1.le hn).le (m := 13) (by decide)).in1.in1.in1) s'' F''
theorem ev_anc (L : Law Γ) (N : Anc name m t) (hm : m ≤ 1000) {p p2 e pos pos2} (he : Ev Γ n env ρ e (.str name)) (hn : 16 ≤ n) (hs : starEach [e] env = [(false, eval e env)] := by rfl)
    (hk : env.kindOf "list" = some .globalImplicit := by rfl) (hk2 : env.kindOf "_ancestry" = some .globalImplicit := by rfl) :
    Ev Γ n env ρ (.Call (.Name "list" p) [.Call (.Name "_ancestry" p2) [e] [] pos2] [] pos) (.list ((List.range m).map fun j => .str (t j))) := fun A X s Q E R S k =>
  anc_raw L N hm he hn hs hk hk2 R S fun S' s' acc c' x hf hS hr => k _ _ (rep_list.mpr ⟨S', acc.toList, rfl, by
    have e2 : acc.toList.toArray = acc := by simp
    rw [e2]
    refine ⟨⟨⟨_, _, hS, rfl, rfl, rfl⟩, fun hm => ?_⟩, hr⟩
    obtain ⟨o, e, _⟩ := S.base.priv _ hm
    rw [hf] at e; cases e⟩) x
end
end Mine

namespace Mine
variable {Γ : Cfg} {n : Nat} {env : Env} {ρ : List (Str × D)} {X : List Addr} {s₀ s : Shared} {pins : List (Addr × Obj)} {π : Pv} {A : Around} {Q : Flow → Shared → Prop} {E : Value → Shared → Prop} {rest : List Stmt}

/-! ## exceptions that are caught where they arise -/
noncomputable def FunFr (Γ : Cfg) (h : Heap) (l : List Env) : Prop := ∀ env ∈ l, env.scope.kind ≠ .module ∧ ∃ L o es n, env.frame = some L ∧ Γ.h.get? L = none ∧ h.get? L = some o ∧ o.data = .dict es n
noncomputable def locs (l : List Env) : List Addr := l.filterMap (·.frame)
theorem FunFr.mem {h : Heap} {l : List Env} (F : FunFr Γ h l) {b : Addr} (hb : b ∈ locs l) : Γ.h.get? b = none ∧ ∃ o es n, h.get? b = some o ∧ o.data = .dict es n := by
  obtain ⟨env, he, hf⟩ := List.mem_filterMap.mp hb
  obtain ⟨_, L, o, es, n, h1, h2, h3, h4⟩ := F env he
  rw [h1] at hf; cases hf
  exact ⟨h2, o, es, n, h3, h4⟩
theorem FunFr.step {s s' : Shared} {l : List Env} (K : Γ.Ok) (F : FunFr Γ s.heap l) (x : Step Γ [] s s') : FunFr Γ s'.heap l := fun env he => by
  obtain ⟨hk, L, o, es, n, h1, h2, h3, h4⟩ := F env he
  have h86 : L ≠ 86 := by rintro rfl; rw [K.t1] at h2; cases h2
  have h103 : L ≠ 103 := by rintro rfl; rw [K.t2] at h2; cases h2
  obtain ⟨sl, e⟩ := x.frm L o h3 h86 h103
  exact ⟨hk, L, _, es, n, h1, h2, e, h4⟩
theorem funFrames {h base : Heap} {Γl : List Addr} (hb : ∀ b, b ∈ Γl → base.get? b = none) : ∀ {l : List Env}, FunFr Γ h l → (∀ b ∈ locs l, b ∈ Γl) → h.FunFrames base l
  | [], _, _ => trivial
  | env :: r, F, hl => by
    obtain ⟨hk, L, o, es, n, h1, h2, h3, h4⟩ := F env (by simp)
    refine ⟨hk, ⟨L, o, h1, hb L (hl L (List.mem_filterMap.mpr ⟨env, by simp, h1⟩)), h3, fun vs q => by rw [h4] at q; cases q⟩, funFrames hb (fun e he => F e (by simp [he])) fun b hb' => hl b ?_⟩
    obtain ⟨e, he, hf⟩ := List.mem_filterMap.mp hb'
    exact List.mem_filterMap.mpr ⟨e, by simp [he], hf⟩
theorem FunFr.of_keeps {h h' : Heap} {l : List Env} (F : FunFr Γ h l) (k : ∀ b o, h.get? b = some o → h'.get? b = some o) : FunFr Γ h' l := fun env he => by
  obtain ⟨hk, L, o, es, n, h1, h2, h3, h4⟩ := F env he
  exact ⟨hk, L, o, es, n, h1, h2, k _ _ h3, h4⟩

/-- what the frames' notes leave of the heap -/
theorem step_noted {s : Shared} {h' : Heap} {l : List Env} {X : List Addr} (K : Γ.Ok) (F : FunFr Γ s.heap l) (k : (PyProof.Rows.TI.gone s.heap (locs l)).StaysIn h') (u : s.heap.UpToSlots h') : Step Γ [] s { s with heap := h' } := by
  have keep : ∀ b o, s.heap.get? b = some o → NoDict o → h'.get? b = some o := fun b o e hd => by
    refine k b o ((PyProof.Rows.TI.gone_get fun hm => ?_).trans e)
    obtain ⟨_, o', es, n, e', hd'⟩ := F.mem hm
    rw [e] at e'; cases e'; exact hd _ _ hd'
  have tab : ∀ {P l c q}, TabAt P l c q s.heap → TabAt P l c q h' := fun {P l c q} ⟨vs, e, hv⟩ => by
    refine ⟨vs, keep _ _ e (by intro es n h; cases h), hv.imp id ?_⟩
    rintro ⟨c, e, c', o, us, t, e2, g, r, r2⟩
    exact ⟨c, e, c', o, us, t, e2, keep _ _ g (by intro es n h; rw [r] at h; cases h), r, r2⟩
  refine ⟨fun b o e hd _ _ => keep b o e hd, fun b o e h1 h2 => ?_, fun {X} B => ⟨fun b o e h1 h2 => ?_, tab B.t1, tab B.t2, fun a ha => ?_⟩, ⟨#[], by simp, AllBare.empty⟩, rfl, rfl⟩
  · by_cases hd : ∃ vs, o.data = .fields vs
    · obtain ⟨vs, hd⟩ := hd
      exact ⟨o.slots, keep b o e (by intro es n h; rw [hd] at h; cases h)⟩
    · exact u b o e fun vs h => hd ⟨vs, h⟩
  · have e' := B.old b o e h1 h2
    refine k b o ((PyProof.Rows.TI.gone_get fun hm => ?_).trans e')
    rw [(F.mem hm).1] at e; cases e
  · obtain ⟨o, e, hd⟩ := B.priv a ha
    obtain ⟨sl, e'⟩ := u a o e hd
    exact ⟨_, e', hd⟩

theorem Room.mark {m : Nat} {v : Value} (R : Room n A) (hm : m ≤ 2) (hn : m ≤ n) : Room m (A.mark (some v)) := by
  obtain ⟨⟨_, h2, h3, h4, h5⟩, e, l, h6, _⟩ := R
  exact ⟨⟨fun h => absurd h (by omega), by show A.depth + m ≤ 800; omega, by show A.units + 40 * m ≤ 9000; omega, h4, h5⟩, e, l, h6, fun h => absurd h (by omega)⟩

theorem catches {X : List Addr} {outer : List Env} {T : String} {L e : Addr} {h₁ : Heap} {t : Str} {tp : Pos} {b₀ : Stmt} {suite : List Stmt} {pos : Pos} {Q : Flow → Shared → Prop} (K : Γ.Ok) (hfr : A.frames = some (env :: outer)) (hf : env.frame = some L) (F : FunFr Γ s.heap (env :: outer)) (S : St Γ X env ρ s)
    (hx : Heap.NewExc s.heap h₁ e T) (hk : env.kindOf t = some .globalImplicit) (hm : Γ.mg t = none) (hv : bootBuiltins t = some (.type T)) (hd : (t == ("__debug__" : Str)) = false) (hn : t ≠ "__name__")
    (hexc : isSubtype (.type T) (.type "BaseException") = pure true) (hnt : isSubtype (.type ((Manifest.find? T).elim "type" fun x => x.metatype)) (.type "tuple") = pure false)
    (hsub : isSubtype (.type T) (.type T) = pure true)
    (k : ∀ s' E', Step Γ [] s s' → wpAny Γ.M (A.mark (some (.ref e))) (execs (b₀ :: suite) env) Q E' s') :
    wpAny Γ.M A (noteFrame (.ref e) env) (fun _ s₂ => wpAny Γ.M A (setFlight (.ref e) none) (fun _ s₃ => wpAny Γ.M A (handleBy (.ref e) env [.ExceptHandler (some (.Name t tp)) none (b₀ :: suite) pos]) Q E s₃) E s₂) E { s with heap := h₁ } := by
  obtain ⟨ob, tpl, he, hcls, hd'⟩ := hx.there
  have F₁ := F.of_keeps hx.keeps
  have hfun : h₁.FunFrames (PyProof.Rows.TI.gone s.heap (locs (env :: outer))) (env :: outer) := funFrames (Γl := locs (env :: outer)) (fun b hb => PyProof.Rows.TI.gone_none hb) F₁ fun b hb => hb
  have hen : (PyProof.Rows.TI.gone s.heap (locs (env :: outer))).get? e = none := by
    cases h : (PyProof.Rows.TI.gone s.heap (locs (env :: outer))).get? e with
    | none => rfl
    | some o => have := (PyProof.Rows.TI.gone_some h).2; rw [hx.new] at this; cases this
  unfold noteFrame
  simp only [hf]
  refine wpAny_bind (wpAny_field he hd' (x := .none) rfl ?_)
  rw [if_neg (by decide)]
  refine wpAny_entryW (a0 := tpl) hfr hfun hf he (fun b o eb => hx.keeps b o (PyProof.Rows.TI.gone_some eb).2) hen hd' (by show 1 < 6; decide) rfl fun h₂ hN => ?_
  obtain ⟨k1, k2, k3, k4⟩ := hN
  refine wpAny_landsW (L := L) ⟨k1, hen, k2, k3⟩ fun h₃ hfl u₃ => ?_
  have u : s.heap.UpToSlots h₃ := ((Heap.UpToSlots.of_keeps hx.keeps).trans k4).trans u₃
  have x₃ : Step Γ [] s { s with heap := h₃ } := step_noted (X := X) K F hfl.1 u
  refine wpAny_handleBy_builtin hexc hnt hsub (wp_bi (v := .type T) K (S.step x₃) hk hm hv ⟨rfl, ?_, ?_⟩ hd hn)
  · obtain ⟨ob', e1, e2⟩ := hfl.there
    exact ⟨ob', e1, e2.trans hcls⟩
  · rw [if_pos rfl]
    refine PyProof.Rows.lands_againW hfl fun h₄ hfl₄ u₄ => ?_
    exact k _ _ (step_noted (X := X) K F hfl₄.1 (u.trans u₄))
end Mine

namespace Mine
variable {Γ : Cfg} {n : Nat} {env : Env} {ρ : List (Str × D)} {X : List Addr} {s₀ s : Shared} {pins : List (Addr × Obj)} {π : Pv} {A : Around} {Q : Flow → Shared → Prop} {E : Value → Shared → Prop} {rest : List Stmt}

theorem rep_adr {h v a} : Rep X h (.adr a) v ↔ v = .ref a := by simp only [Rep]
noncomputable def vwA : Pv → List (Str × D)
  | [] => []
  | (x, a, _) :: r => if x = "" then vwA r else (x, .adr a) :: vwA r
theorem vwA_look : ∀ {π : Pv} {x : Str} {d}, (vwA π).lookup x = some d → ∃ a l, (x, a, l) ∈ π ∧ x ≠ "" ∧ d = .adr a
  | [], x, d, h => by simp [vwA] at h
  | (y, a, l) :: r, x, d, h => by
    unfold vwA at h
    split at h
    · obtain ⟨a', l', hm, hd⟩ := vwA_look (π := r) h
      exact ⟨a', l', by simp [hm], hd⟩
    · rename_i hne
      rw [List.lookup_cons] at h
      split at h
      · rename_i hxy
        cases h
        have : x = y := by simpa using hxy
        subst this
        exact ⟨a, l, by simp, hne, rfl⟩
      · obtain ⟨a', l', hm, hd⟩ := vwA_look (π := r) h
        exact ⟨a', l', by simp [hm], hd⟩
/-- all names, the private lists by their addresses -/
theorem Fm.viewA (F : Fm Γ X env s₀ pins π ρ s) : St Γ X env (vwA π ++ ρ) s := by
  have S := F.st.sub (Y := X) fun a ha => List.mem_append_right _ ha
  obtain ⟨m, hn, hv⟩ := S.vars
  refine ⟨S.base, S.glob, m, hn, fun x d h => ?_⟩
  rw [lookup_append] at h
  cases hx : (vwA π).lookup x with
  | none => rw [hx] at h; exact hv x d (by simpa using h)
  | some d' =>
    rw [hx] at h
    have : d' = d := by simpa using h
    subst this
    obtain ⟨a, l, hm, hne, rfl⟩ := vwA_look hx
    obtain ⟨h0, ys, h4, h5⟩ := F.priv _ hm
    obtain ⟨m', h1, h2, h3⟩ := h0 hne
    have hmm : m x = m' x := by
      obtain ⟨o, es, ep, e, hd, _, hl⟩ := hn
      obtain ⟨o', es', ep', e', hd', _, hl'⟩ := h1
      rw [e] at e'; cases e'; rw [hd] at hd'; cases hd'
      rw [← hl, ← hl']
    exact ⟨.ref a, rep_adr.mpr rfl, .inl ⟨h2, hmm.trans h3⟩⟩
/-- the private lists are told as data from here on -/
theorem Fm.opened {ρ'} (F : Fm Γ X env s₀ pins π ρ s) (h : ∀ x d, ρ'.lookup x = some d → ∃ d₀, (vwA π ++ ρ).lookup x = some d₀ ∧ ∀ v, Rep X s.heap d₀ v → Rep X s.heap d v) : Fm Γ X env s₀ pins [] ρ' s := by
  have S := F.viewA
  obtain ⟨m, hn, hv⟩ := S.vars
  refine ⟨F.base₀, F.step, fun I hI => F.fresh I ?_, F.cells, F.apart, ⟨S.base, S.glob, m, hn, fun x d hx => ?_⟩, by simp, by simp [adr], fun p hp => ?_⟩
  · rcases hI with h | h | h
    · exact .inl h
    · exact .inr (.inl h)
    · simp [adr] at h
  · obtain ⟨d₀, h1, h2⟩ := h x d hx
    obtain ⟨v, hr, hh⟩ := hv x d₀ h1
    exact ⟨v, h2 v hr, hh⟩
  · obtain ⟨h1, h2, h3⟩ := F.pin p hp
    refine ⟨h1, fun hI => h2 ?_, h3⟩
    rcases hI with h | h | h
    · exact .inl h
    · exact .inr (.inl h)
    · simp [adr] at h
/-- what a private list tells -/
theorem Fm.listAt {x : Str} {a : Addr} {l : List D} (F : Fm Γ X env s₀ pins π ρ s) (h : (x, a, l) ∈ π) : Rep X s.heap (.list l) (.ref a) := by
  obtain ⟨_, ys, h4, h5⟩ := F.priv _ h
  refine rep_list.mpr ⟨a, ys.toList, rfl, ?_, RepL.sub (fun a ha => List.mem_append_right _ ha) _ _ h5⟩
  have e2 : ys.toList.toArray = ys := by simp
  rw [e2]
  refine plain_LO h4 fun hx => ?_
  obtain ⟨o, e, _⟩ := F.base₀.priv _ hx
  rw [F.fresh a (.inr (.inr (List.mem_map.mpr ⟨_, h, rfl⟩)))] at e; cases e

/-- a list made meanwhile becomes private -/
theorem Fm.adopt {ds : List D} {s' : Shared} {a : Addr} {ys : Array Value} (F : Fm Γ X env s₀ pins π ρ s) (x : Step Γ [] s s') (hnone : s.heap.get? a = none) (hp : s'.heap.PlainList a ys) (hs : ∀ d ∈ ds, Sc d) (r : RepL X s'.heap ds ys.toList) :
    Fm Γ X env s₀ pins ((nm0, a, ds) :: π) ρ s' := by
  have F₂ := F.go x
  obtain ⟨n', hnew⟩ := id hp
  have hex : ∀ I o, s.heap.get? I = some o → I ≠ a := fun I o e h => by rw [h, hnone] at e; cases e
  refine ⟨F.base₀, F₂.step, fun I hI => ?_, F₂.cells, F.apart, F.st.aside x hnone hnew (fun vs q => by cases q), fun p hp' => ?_, ?_, fun p hp' => ?_⟩
  · rcases hI with h | h | h
    · exact F.fresh I (.inl h)
    · exact F.fresh I (.inr (.inl h))
    · rcases List.mem_cons.mp h with rfl | h
      · exact fresh_back F.step F.base₀ hnone
      · exact F.fresh I (.inr (.inr h))
  · rcases List.mem_cons.mp hp' with rfl | hp'
    · exact ⟨fun h => absurd rfl h, ys, hp, Sc.repL hs r⟩
    · obtain ⟨h0', ys', h4', h5'⟩ := F₂.priv p hp'
      obtain ⟨_, ys, h4, h5⟩ := F.priv p hp'
      refine ⟨h0', ys, ?_, ?_⟩
      · obtain ⟨n'', e⟩ := h4
        obtain ⟨_, g1, g2⟩ := fresh_ne F.base₀ (F.fresh p.2.1 (.inr (.inr (List.mem_map.mpr ⟨p, hp', rfl⟩))))
        exact ⟨n'', x.keep _ _ e (by intro es n h; cases h) g1 g2⟩
      · exact RepL.mono (x.keepSeq F.base) _ _ (RepL.priv hnone _ _ h5)
  · refine List.nodup_cons.mpr ⟨fun hm => ?_, F.nodup⟩
    obtain ⟨o, e, _⟩ := F.notNone (.inr (.inr hm))
    exact hex _ _ e rfl
  · obtain ⟨h1, h2, h3, h4⟩ := F₂.pin p hp'
    obtain ⟨g1, _⟩ := F.pin p hp'
    refine ⟨h1, fun ho => ?_, h3, h4⟩
    rcases ho with h | h | h
    · exact h2 (.inl h)
    · exact h2 (.inr (.inl h))
    · rcases List.mem_cons.mp h with h | h
      · exact hex _ _ g1 h
      · exact h2 (.inr (.inr h))

/-! ## a heap without the private lists -/
noncomputable abbrev sans (s : Shared) (l : List Addr) : Shared := { s with heap := PyProof.Rows.TI.gone s.heap l }
theorem sans_step {s : Shared} {l : List Addr} {Y : List Addr} (hΓ : ∀ a ∈ l, ∃ o, s.heap.get? a = some o ∧ ∀ vs, o.data ≠ .fields vs) : Step Γ [] (sans s l) s := by
  refine ⟨fun b o e _ _ _ => (PyProof.Rows.TI.gone_some e).2, fun b o e _ _ => ⟨o.slots, (PyProof.Rows.TI.gone_some e).2⟩, fun B => B.keeps fun b o e => (PyProof.Rows.TI.gone_some e).2, ⟨#[], by simp, AllBare.empty⟩, rfl, rfl⟩
theorem sans_base {s : Shared} {l : List Addr} (B : Base Γ X s.heap) (hl : ∀ a ∈ l, Γ.h.get? a = none ∧ a ∉ X ∧ ∃ o, s.heap.get? a = some o ∧ ∀ vs, o.data ≠ .fields vs) : Base Γ X (sans s l).heap := by
  have kf : ∀ b o, s.heap.get? b = some o → (∃ vs, o.data = .fields vs) → (PyProof.Rows.TI.gone s.heap l).get? b = some o := fun b o e ⟨vs, hd⟩ =>
    (PyProof.Rows.TI.gone_get fun hm => by obtain ⟨_, _, o', e', h'⟩ := hl b hm; rw [e] at e'; cases e'; exact h' _ hd).trans e
  have tab : ∀ {P l' c q}, TabAt P l' c q s.heap → TabAt P l' c q (PyProof.Rows.TI.gone s.heap l) := fun {P l' c q} ⟨vs, e, hv⟩ => by
    refine ⟨vs, kf _ _ e ⟨_, rfl⟩, hv.imp id ?_⟩
    rintro ⟨c, e, c', o, us, t, e2, g, r, r2⟩
    exact ⟨c, e, c', o, us, t, e2, kf _ _ g ⟨_, r⟩, r, r2⟩
  refine ⟨fun b o e h1 h2 => (PyProof.Rows.TI.gone_get fun hm => ?_).trans (B.old b o e h1 h2), tab B.t1, tab B.t2, fun a ha => ?_⟩
  · rw [(hl b hm).1] at e; cases e
  · obtain ⟨o, e, hd⟩ := B.priv a ha
    exact ⟨o, (PyProof.Rows.TI.gone_get fun hm => (hl a hm).2.1 ha).trans e, hd⟩

mutual
theorem Rep.away {X Y : List Addr} {h h' : Heap} (k : ∀ b o, h.get? b = some o → b ∉ Y → (∃ xs n, o.data = .seq xs n) → ∃ sl, h'.get? b = some { o with slots := sl }) (hY : ∀ a ∈ Y, a ∈ X) : ∀ (d : D) (v : Value), Rep X h d v → Rep X h' d v
  | .none, _, x => by simpa [Rep] using x
  | .typ _, _, x => by simpa [Rep] using x
  | .adr _, _, x => by simpa [Rep] using x
  | .bool _, _, x => by simpa [Rep] using x
  | .int _, _, x => by simpa [Rep] using x
  | .str _, _, x => by simpa [Rep] using x
  | .list l, v, x => by
    obtain ⟨a, vs, rfl, ⟨⟨o, n, e, r1, r2, r3⟩, hp⟩, hr⟩ := rep_list.mp x
    obtain ⟨sl, e'⟩ := k a o e (fun hm => hp (hY a hm)) ⟨_, _, r3⟩
    exact rep_list.mpr ⟨a, vs, rfl, ⟨⟨_, n, e', r1, r2, r3⟩, hp⟩, RepL.away k hY l vs hr⟩
  | .tup l, v, x => by
    obtain ⟨a, vs, rfl, ⟨⟨o, e, r1, n, r3⟩, hp⟩, hr⟩ := rep_tup.mp x
    obtain ⟨sl, e'⟩ := k a o e (fun hm => hp (hY a hm)) ⟨_, _, r3⟩
    exact rep_tup.mpr ⟨a, vs, rfl, ⟨⟨_, e', r1, n, r3⟩, hp⟩, RepL.away k hY l vs hr⟩
theorem RepL.away {X Y : List Addr} {h h' : Heap} (k : ∀ b o, h.get? b = some o → b ∉ Y → (∃ xs n, o.data = .seq xs n) → ∃ sl, h'.get? b = some { o with slots := sl }) (hY : ∀ a ∈ Y, a ∈ X) : ∀ (l : List D) (vs : List Value), RepL X h l vs → RepL X h' l vs
  | [], _, x => by simpa [RepL] using x
  | d :: ds, vs, x => by
    obtain ⟨v, r, rfl, h1, h2⟩ := repL_cons.mp x
    exact repL_cons.mpr ⟨v, r, rfl, Rep.away k hY d v h1, RepL.away k hY ds r h2⟩
end

/-- the private lists change in a call -/
theorem Fm.shift {π' : Pv} {s' : Shared} (F : Fm Γ X env s₀ pins π ρ s) (x : Step Γ [] (sans s (adr π)) s') (hadr : π'.map (fun p => (p.1, p.2.1)) = π.map (fun p => (p.1, p.2.1)))
    (hp : ∀ p ∈ π', (∀ d ∈ p.2.2, Sc d) ∧ ∃ ys, s'.heap.PlainList p.2.1 ys ∧ RepL X s'.heap p.2.2 ys.toList) : Fm Γ X env s₀ pins π' ρ s' := by
  have hadr' : adr π' = adr π := by
    have := congrArg (List.map Prod.snd) hadr
    simpa [adr, List.map_map, Function.comp_def] using this
  have seqs : ∀ a ∈ adr π, Γ.h.get? a = none ∧ ∃ o, s.heap.get? a = some o ∧ (∀ vs, o.data ≠ .fields vs) ∧ (∀ es n, o.data ≠ .dict es n) ∧ ∀ v, o.data ≠ .cell v := fun a ha => by
    obtain ⟨p, hp, rfl⟩ := List.mem_map.mp ha
    obtain ⟨_, ys, ⟨n', e⟩, _⟩ := F.priv p hp
    exact ⟨(fresh_ne F.base₀ (F.fresh _ (.inr (.inr ha)))).1, _, e, (fun vs h => by cases h), (fun es n h => by cases h), fun v h => by cases h⟩
  have kp : ∀ b o, s.heap.get? b = some o → b ∉ adr π → (sans s (adr π)).heap.get? b = some o := fun b o e hb => (PyProof.Rows.TI.gone_get hb).trans e
  have B := F.base
  have offX : ∀ {Z : List Addr}, Base Γ Z s₀.heap → ∀ a ∈ adr π, a ∉ Z := fun B₀ a ha hz => by
    obtain ⟨o, e, _⟩ := B₀.priv a hz
    rw [F.fresh a (.inr (.inr ha))] at e; cases e
  have bs : ∀ {Z}, Base Γ Z s₀.heap → Base Γ Z s'.heap := fun {Z} B₀ => x.base (sans_base (F.step.base B₀) fun a ha => by
    obtain ⟨h1, o, e, h2, _⟩ := seqs a ha
    exact ⟨h1, offX B₀ a ha, o, e, h2⟩)
  have B' : Base Γ (adr π ++ X) s'.heap := ⟨(bs F.base₀).old, (bs F.base₀).t1, (bs F.base₀).t2, fun a ha => by
    rcases List.mem_append.mp ha with h | h
    · rw [← hadr'] at h
      obtain ⟨p, hp', rfl⟩ := List.mem_map.mp h
      obtain ⟨_, ys, ⟨n', e⟩, _⟩ := hp p hp'
      exact ⟨_, e, fun vs h => by cases h⟩
    · exact (bs F.base₀).priv a h⟩
  have old : ∀ b o, s.heap.get? b = some o → b ∉ adr π → b ≠ 86 → b ≠ 103 → ∃ sl, s'.heap.get? b = some { o with slots := sl } := fun b o e hb h1 h2 => x.frm b o (kp b o e hb) h1 h2
  obtain ⟨m, hn, hv⟩ := F.st.vars
  have nsL : ∀ {m'}, s.heap.Ns env.locals m' → s'.heap.Ns env.locals m' := fun {m'} ⟨o, es, ep, e, hd, r⟩ => by
    obtain ⟨_, g1, g2⟩ := fresh_ne F.base₀ (F.fresh _ (.inl rfl))
    obtain ⟨sl, e'⟩ := old _ o e (fun hm => F.offL (List.mem_append_left _ hm)) g1 g2
    exact ⟨_, es, ep, e', hd, r⟩
  have cellK : ∀ {c v}, s.heap.IsCell c v → s'.heap.IsCell c v := fun {c v} ⟨o, e, hd⟩ => by
    have h86 : c ≠ 86 := by rintro rfl; obtain ⟨vs, e', _⟩ := B.t1; rw [e] at e'; cases e'; cases hd
    have h103 : c ≠ 103 := by rintro rfl; obtain ⟨vs, e', _⟩ := B.t2; rw [e] at e'; cases e'; cases hd
    obtain ⟨sl, e'⟩ := old c o e (fun hm => by obtain ⟨_, o', e', _, _, h'⟩ := seqs c hm; rw [e] at e'; cases e'; exact h' _ hd) h86 h103
    exact ⟨_, e', hd⟩
  have seqK : ∀ b o, s.heap.get? b = some o → b ∉ adr π → (∃ xs n, o.data = .seq xs n) → ∃ sl, s'.heap.get? b = some { o with slots := sl } := fun b o e hb ⟨xs, n, hd⟩ => by
    refine old b o e hb ?_ ?_
    · rintro rfl; obtain ⟨vs, e', _⟩ := B.t1; rw [e] at e'; cases e'; cases hd
    · rintro rfl; obtain ⟨vs, e', _⟩ := B.t2; rw [e] at e'; cases e'; cases hd
  refine ⟨F.base₀, ⟨fun b o e hd h1 h2 => ?_, fun b o e h1 h2 => ?_, bs, ?_, x.os.trans F.step.os, x.drawn.trans F.step.drawn⟩, fun I hI => F.fresh I (hadr' ▸ hI), fun y c hc => ?_, F.apart, ⟨hadr' ▸ B', F.st.glob, m, nsL hn, fun y e hy => ?_⟩, fun p hp' => ?_, hadr' ▸ F.nodup, fun p hp' => ?_⟩
  · refine x.keep b o (kp b o (F.step.keep b o e hd h1 h2) fun hm => ?_) hd h1 h2
    rw [F.fresh b (.inr (.inr hm))] at e; cases e
  · obtain ⟨sl, e'⟩ := F.step.frm b o e h1 h2
    obtain ⟨sl', e2⟩ := old b _ e' (fun hm => by rw [F.fresh b (.inr (.inr hm))] at e; cases e) h1 h2
    exact ⟨sl', e2⟩
  · obtain ⟨n1, e1, a1⟩ := F.step.gens
    obtain ⟨n2, e2, a2⟩ := x.gens
    exact ⟨n1 ++ n2, by rw [e2, ← Array.append_assoc, ← e1], AllBare.append a1 a2⟩
  · obtain ⟨v, h⟩ := F.cells y c hc
    exact ⟨v, cellK h⟩
  · obtain ⟨v', hr, hh⟩ := hv y e hy
    rw [hadr']
    exact ⟨v', Rep.away seqK (fun a ha => List.mem_append_left _ ha) _ _ hr, hh.imp id fun ⟨a, c, b1, b2⟩ => ⟨a, c, b1, cellK b2⟩⟩
  · rw [hadr']
    obtain ⟨hs, ys, h4, h5⟩ := hp p hp'
    refine ⟨fun hne => ?_, ys, h4, Sc.repL hs h5⟩
    have : (p.1, p.2.1) ∈ π.map (fun p => (p.1, p.2.1)) := hadr ▸ List.mem_map.mpr ⟨p, hp', rfl⟩
    obtain ⟨q, hq, e⟩ := List.mem_map.mp this
    have e1 : q.1 = p.1 := (Prod.mk.inj e).1
    have e2 : q.2.1 = p.2.1 := (Prod.mk.inj e).2
    obtain ⟨h0, _⟩ := F.priv q hq
    obtain ⟨m', g1, g2, g3⟩ := h0 (by rw [e1]; exact hne)
    exact ⟨m', nsL g1, e1 ▸ g2, by rw [← e1, ← e2]; exact g3⟩
  · rw [hadr']
    obtain ⟨h1, h2, h3, h4⟩ := F.pin p hp'
    exact ⟨x.keep _ _ (kp _ _ h1 fun hm => h2 (.inr (.inr hm))) h4.2 h3 h4.1, h2, h3, h4⟩
end Mine

namespace Mine
variable {Γ : Cfg} {n : Nat} {env : Env} {ρ : List (Str × D)} {X : List Addr} {s₀ s : Shared} {pins : List (Addr × Obj)} {π : Pv} {A : Around} {Q : Flow → Shared → Prop} {E : Value → Shared → Prop} {rest : List Stmt}

noncomputable def parOf : Stmt → Arguments
  | .FunctionDef _ a _ _ _ _ _ _ _ _ => a
  | _ => default
noncomputable def bodyOf : Stmt → List Stmt
  | .FunctionDef _ _ b _ _ _ _ _ _ _ => b
  | _ => []
noncomputable def scopeOf : Stmt → Scope
  | .FunctionDef _ _ _ _ _ _ s _ _ _ => s
  | _ => default
theorem Defd.parts {a st} (h : Defd Γ a st) : ∃ pm c doc o, Γ.h.get? a = some o ∧ o.data = .func (Calls.docDef (nameOf st) (parOf st) (bodyOf st) (scopeOf st) pm (.ref c) doc) ∧ Γ.h.CodeRec (.ref c) (nameOf st) ∧ Γ.mg (nameOf st) = some (.ref a) ∧
    a ≠ 86 ∧ a ≠ 103 ∧ c ≠ 86 ∧ c ≠ 103 := by
  cases st <;> first | exact h.elim | exact h

theorem tr_list {l : List D} (hz : l.length ≤ 1000) : Tr1 Γ n (.list l) (!l.isEmpty) := fun A X s v Q E _ _ hv k => by
  obtain ⟨a, vs, rfl, hl, hr⟩ := rep_list.mp hv
  have e := hr.len
  refine wpAny_truthy_list hl.isList (by simp; omega) ?_
  have e2 : vs.toArray.isEmpty = l.isEmpty := by
    cases l <;> cases vs <;> simp_all
  rw [e2]
  exact k _ (Step.tok (tk := s.toks + 1 + 1))

/-- y = x.pop(), x private -/
theorem x_pop {x y : Str} {a : Addr} {l : List D} {d : D} {π₁ π₂ : Pv} {p px apos pos pos'} (F : Fm Γ X env s₀ pins (π₁ ++ (x, a, l ++ [d]) :: π₂) ρ s) (hs : ∀ d' ∈ l ++ [d], Sc d')
    (k : ∀ s', Fm Γ X env s₀ pins (π₁ ++ (x, a, l) :: π₂) (put y d ρ) s' → Go Γ A rest env Q E s')
    (hz : l.length ≤ 1000) (hkl : env.kindOf x = some .local := by rfl) (hy : nameOk env (π₁ ++ (x, a, l) :: π₂) y = true := by rfl) (hx0 : x ≠ "" := by decide) (hdb : (x == ("__debug__" : Str)) = false := by decide)
    (hbase : attributeBase (.Name x px) "pop" env (eval (.Name x px) env) = eval (.Name x px) env := by rfl) (hline : (apos.endLine == pos.line) = true := by decide)
    (hsw : swapsWith (.Call (.Attribute (.Name x px) "pop" apos) [] [] pos) (some (.Name y p)) pos'.line env = pure false := by rfl) :
    Go Γ A (.Assign [.Name y p] (.Call (.Attribute (.Name x px) "pop" apos) [] [] pos) pos' :: rest) env Q E s := by
  refine Go.cons (wpAny_Assign_Name (Call_method0 hbase hline (wpAny_Name ?_ hdb)) hsw)
  obtain ⟨h0, ys, h4, h5⟩ := F.priv (x, a, l ++ [d]) (by simp)
  obtain ⟨m, hn, _, hm⟩ := h0 hx0
  obtain ⟨n', ho⟩ := h4
  have hr : RepL X s.heap (l ++ [d]) ys.toList := RepL.sub (fun b hb => List.mem_append_right _ hb) _ _ h5
  have hlen : ys.size = l.length + 1 := by have := hr.len; simpa using this
  refine wpAny_loadName_local F.st.glob.2.2 hkl hn hm ⟨"list", "list.pop", PySem.F.plainAttrs_list, PySem.F.slot_list_pop, PySem.F.type_list_pop, ⟨_, ho, rfl⟩, fun b hb => by cases hb; exact ⟨_, ho, rfl⟩, ?_⟩
  obtain ⟨v, hv, rv⟩ := hr.get (i := l.length) (d := d) (by simp)
  have hget : ys[ys.size - 1]? = some v := by
    rw [hlen]; simpa using hv
  refine Calls.callWith_builtin rfl (PySem.evalArgs_none ?_)
  refine call_meets PySem.F.slot_list_pop ⟨_, ho, rfl⟩ PySem.F.entry_list_pop (PySem.F.args_list_pop_1 _) (MeetsSeq.list_pop_last a ys n' v hget (by rw [hlen]; unfold sizeLine; omega)) ⟨ho, ?_⟩
  have hup := Heap.get?_update_self (Obj.mapSeq fun xs => xs.eraseIdxIfInBounds (ys.size - 1)) ho rfl
  have u : Upd a s { s with heap := s.heap.update a (Obj.mapSeq fun xs => xs.eraseIdxIfInBounds (ys.size - 1)) } := ⟨_, s.toks, rfl, fun b o hb e => (Heap.get?_update_other _ _ (Ne.symm hb)).trans e⟩
  have hpop : (ys.eraseIdxIfInBounds (ys.size - 1)).toList = ys.toList.take l.length := by
    rw [Array.toList_eraseIdxIfInBounds, hlen]
    simp only [Nat.add_sub_cancel]
    rw [List.eraseIdx_eq_take_drop_succ]
    have : List.drop (l.length + 1) ys.toList = [] := List.drop_eq_nil_of_le (by simp [hlen])
    rw [this, List.append_nil]
  have F' := F.mut (l' := l) (ys := ys.eraseIdxIfInBounds (ys.size - 1)) u ⟨_, hup⟩ (fun d' hd' => hs d' (by simp [hd'])) (by
    rw [hpop]
    have := RepL.take l.length hr
    have := Sc.repL (Y := X) (h' := (s.heap.update a (Obj.mapSeq fun xs => xs.eraseIdxIfInBounds (ys.size - 1)))) (ds := l) (vs := ys.toList.take l.length) (fun d' hd' => hs d' (by simp [hd'])) (by simpa using this)
    exact this)
  exact F'.store ((hs d (by simp)).rep rv) (nameOk.kind hy) (nameOk.priv hy) fun s' F'' => k s' F''
end Mine

namespace Mine
variable {Γ : Cfg} {n : Nat} {env : Env} {ρ : List (Str × D)} {X : List Addr} {s₀ s : Shared} {pins : List (Addr × Obj)} {π : Pv} {A : Around} {Q : Flow → Shared → Prop} {E : Value → Shared → Prop} {rest : List Stmt}

/-! ## the difference of unordered lists -/
noncomputable def uo : List (List Nat) → List (List Nat) → List (List Nat) → List (List Nat) × List (List Nat)
  | [], m, c => (m, c)
  | x :: r, m, c => if c.contains x then uo r m (c.erase x) else uo r (m ++ [x]) c

theorem isStrOf_at {k : List Nat} : ∀ {vs : List Value} {ys : List (List Nat)}, StrsAre vs (ys.map mkS) → ∀ (i : Nat) (h1 : i < vs.length) (h2 : i < ys.length), isStrOf (mkS k) vs[i] = (ys[i] == k)
  | _, [], _, i, _, h2 => by simp at h2
  | _, y :: ys, .cons _ t h, 0, _, _ => by
    show (mkS y == mkS k) = (y == k)
    rw [Bool.eq_iff_iff, beq_iff_eq, beq_iff_eq, mkS_inj]
  | _, y :: ys, .cons _ t h, i + 1, h1, h2 => by
    simp only [List.getElem_cons_succ]
    exact isStrOf_at h i _ (by simpa using h2)

theorem idx_ne {t : List Nat} : ∀ {c : List (List Nat)} {i : Nat} (_ : i < c.idxOf t) (hi : i < c.length), (c[i] == t) = false
  | x :: r, 0, h, _ => by
    rw [List.idxOf_cons] at h
    cases hx : x == t with
    | true => rw [hx] at h; simp at h
    | false => simpa using hx
  | x :: r, i + 1, h, hi => by
    rw [List.idxOf_cons] at h
    cases hx : x == t with
    | true => rw [hx] at h; simp at h
    | false =>
      rw [hx] at h
      simp only [List.getElem_cons_succ]
      exact idx_ne (by simpa using h) _
theorem map_eraseIdx' {α β : Type} (f : α → β) : ∀ (l : List α) (i : Nat), (l.eraseIdx i).map f = (l.map f).eraseIdx i
  | [], _ => by simp
  | x :: r, 0 => by simp
  | x :: r, i + 1 => by simp [map_eraseIdx' f r i]

/-- try: x.remove(y) except ValueError: z.append(y) -/
theorem x_remove (L : Law Γ) {x y z : Str} {a b : Addr} {c : List (List Nat)} {m : List (List Nat)} {t : List Nat} {π₀ : Pv} {p1 p2 p3 p4 q1 q2 q3 q4 r1 r2 r3 : Pos} {outer : List Env} {Lo : Addr}
    (F : Fm Γ X env s₀ pins ((z, b, sD m) :: π₀ ++ [(x, a, sD c)]) ρ s) (hy : ρ.lookup y = some (.str t)) (R : Room n A) (h3 : 3 ≤ n) (hfr : A.frames = some (env :: outer)) (hf : env.frame = some Lo) (hfun : FunFr Γ s.heap (env :: outer))
    (hcz : c.length ≤ 1000) (hmz : m.length ≤ 1000)
    (k : ∀ s', Fm Γ X env s₀ pins ((z, b, sD (if c.contains t then m else m ++ [t])) :: π₀ ++ [(x, a, sD (if c.contains t then c.erase t else c))]) ρ s' → FunFr Γ s'.heap (env :: outer) → Q .next s')
    (hkx : env.kindOf x = some .local := by rfl) (hkz : env.kindOf z = some .local := by rfl) (hx0 : x ≠ "" := by decide) (hz0 : z ≠ "" := by decide) (hdbx : (x == ("__debug__" : Str)) = false := by decide) (hdbz : (z == ("__debug__" : Str)) = false := by decide)
    (hdby : (y == ("__debug__" : Str)) = false := by decide) (hcly : (y == ("__classdict__" : Str)) = false := by decide)
    (hve : env.kindOf "ValueError" = some .globalImplicit := by rfl)
    (hbx : attributeBase (.Name x p1) "remove" env (eval (.Name x p1) env) = eval (.Name x p1) env := by rfl) (hby : starEach [.Name y p2] env = [(false, eval (.Name y p2) env)] := by rfl)
    (hl1 : (p3.endLine == p4.line) = true := by decide) (hi : interactive env = false := by rfl)
    (hsw1 : swapsWith (.Call (.Attribute (.Name x p1) "remove" p3) [.Name y p2] [] p4) none r1.line env = pure false := by rfl)
    (hbz : attributeBase (.Name z q1) (Str.ofString "append") env (eval (.Name z q1) env) = eval (.Name z q1) env := by rfl)
    (hfew : ((((backTo q4 (starEach [.Name y q2] env)).all fun x => !x.fst) && (backToKw q4 (keywordEach [] env)).all fun x => x.fst.isSome) && decide (([Expr.Name y q2].length + ([] : List Keyword).length + if ([] : List Keyword).isEmpty = true then 0 else 1) < 30)) = true := by rfl)
    (hl2 : (q3.endLine == q4.line) = true := by decide) (htr : backTo q4 (starEach [.Name y q2] env) = [(false, eval (.Name y q2) env)] := by rfl)
    (hsw2 : swapsWith (.Call (.Attribute (.Name z q1) (Str.ofString "append") q3) [.Name y q2] [] q4) none r2.line env = pure false := by rfl) {tp : Pos} {hp : Pos} :
    wpAny Γ.M A (exec (.Try [.Expr (.Call (.Attribute (.Name x p1) "remove" p3) [.Name y p2] [] p4) r1]
      [.ExceptHandler (some (.Name "ValueError" tp)) none [.Expr (.Call (.Attribute (.Name z q1) (Str.ofString "append") q3) [.Name y q2] [] q4) r2] hp] [] [] r3) env) Q E s := by
  refine wpAny_Try_except (wpAny_execs_cons (wpAny_Expr (Call_method1 hbx hby hl1 (wpAny_Name ?_ hdbx)) hi hsw1))
  refine via fun G ret => ?_
  obtain ⟨h0, ys, h4, h5⟩ := F.priv (x, a, sD c) (by simp)
  obtain ⟨mm, hn, _, hm⟩ := h0 hx0
  obtain ⟨n', ho⟩ := id h4
  have hr : RepL X s.heap (sD c) ys.toList := RepL.sub (fun b hb => List.mem_append_right _ hb) _ _ h5
  have hstr : StrsAre ys.toList (c.map mkS) := hr.strs
  have hlen : ys.size = c.length := by have := hr.len; simpa [sD] using this
  refine ret (wpAny_loadName_local F.st.glob.2.2 hkx hn hm ⟨"list", "list.remove", PySem.F.plainAttrs_list, PySem.F.slot_list_remove, PySem.F.type_list_remove, ⟨_, ho, rfl⟩, fun b hb => by cases hb; exact ⟨_, ho, rfl⟩, ?_⟩)
  refine Calls.callWith_builtin rfl (Calls.evalArgs_plain (Calls.spliced_cons ((ev_name (n := n) (ρ := ρ) hy hdby hcly : Ev Γ n env ρ _ _) A _ s _ _ R F.st fun v s₁ rv x₁ => Calls.spliced_nil ?_)))
  obtain ⟨tk, rfl⟩ := rep_str.mp rv
  have F₁ := F.go x₁
  have hfun₁ := hfun.step L.toOk x₁
  have ho₁ : s₁.heap.get? a = some { cls := .type "list", dict := none, data := .seq ys n', slots := #[] } := by
    obtain ⟨_, g1, g2⟩ := fresh_ne F.base₀ (F.fresh a (.inr (.inr (by simp [adr]))))
    exact x₁.keep _ _ ho (by intro es n h; cases h) g1 g2
  by_cases hin : c.contains t = true
  · rw [hin] at k
    simp only [if_true] at k
    have hmem : t ∈ c := List.contains_iff_mem.mp hin
    have hj : c.idxOf t < c.length := List.idxOf_lt_length_iff.mpr hmem
    refine call_meets PySem.F.slot_list_remove ⟨_, ho₁, rfl⟩ PySem.F.entry_list_remove (PySem.F.args_list_remove_2 _ _)
      (MeetsSeq.list_remove a ys n' (.str (mkS t) tk) (isStrOf (mkS t)) (fun y hy => eq_isStrOf (mkS t) tk hstr y (by simpa using hy)) (c.idxOf t) (by rw [hlen]; exact hj) ?_ ?_ (by rw [hlen]; unfold sizeLine; omega)) ⟨ho₁, ?_⟩
    · have := isStrOf_at (k := t) hstr (c.idxOf t) (by simpa [hlen] using hj) hj
      rw [List.getElem_idxOf hj] at this
      simpa using this
    · intro m' hm' hlt
      have hmc : m' < c.length := by omega
      have := isStrOf_at (k := t) hstr m' (by simpa [hlen] using hmc) hmc
      have hne : (c[m'] == t) = false := idx_ne hlt hmc
      rw [hne] at this
      simpa using this
    · have hup := Heap.get?_update_self (Obj.mapSeq fun xs => xs.eraseIdxIfInBounds (c.idxOf t)) ho₁ rfl
      have u : Upd a s₁ { s₁ with heap := s₁.heap.update a (Obj.mapSeq fun xs => xs.eraseIdxIfInBounds (c.idxOf t)) } := ⟨_, s₁.toks, rfl, fun b o hb e => (Heap.get?_update_other _ _ (Ne.symm hb)).trans e⟩
      have F' := F₁.mut (π₁ := (z, b, sD m) :: π₀) (π₂ := []) (l' := sD (c.erase t)) (ys := ys.eraseIdxIfInBounds (c.idxOf t)) u ⟨_, hup⟩ sD_sc (by
        rw [Array.toList_eraseIdxIfInBounds]
        have e : sD (c.erase t) = (sD c).eraseIdx (c.idxOf t) := by
          rw [List.erase_eq_eraseIdx_of_idxOf rfl]
          exact map_eraseIdx' D.str _ _
        rw [e]
        have key : ∀ (ds : List D) (vs : List Value) (i : Nat), RepL X s.heap ds vs → RepL X s.heap (ds.eraseIdx i) (vs.eraseIdx i) := by
          intro ds
          induction ds with
          | nil => intro vs i r; rw [repL_nil] at r; subst r; simpa using repL_nil.mpr rfl
          | cons d ds ih =>
            intro vs i r
            obtain ⟨v, r', rfl, r1, r2⟩ := repL_cons.mp r
            cases i with
            | zero => simpa using r2
            | succ i => exact repL_cons.mpr ⟨v, _, rfl, r1, ih _ i r2⟩
        exact Sc.repL (fun d hd => sD_sc d (List.mem_of_mem_eraseIdx hd)) (key _ _ _ hr))
      refine wpAny_execs_nil (wpAny_execs_nil (k _ F' fun env' he' => ?_))
      refine via fun G ret => ?_
      obtain ⟨g0, Lf, of, es, nn, g1, g2, g3, g4⟩ := hfun₁ env' he'
      refine ret ⟨g0, Lf, of, es, nn, g1, g2, u.at ?_ g3, g4⟩
      rintro rfl
      rw [ho₁] at g3; cases g3; cases g4
  · have hin' : c.contains t = false := by simpa using hin
    rw [hin'] at k
    simp only [Bool.false_eq_true, if_false] at k
    refine call_meets PySem.F.slot_list_remove ⟨_, ho₁, rfl⟩ PySem.F.entry_list_remove (PySem.F.args_list_remove_2 _ _)
      (MeetsSeq.list_remove_none a ys n' (.str (mkS t) tk) (isStrOf (mkS t)) (fun y hy => eq_isStrOf (mkS t) tk hstr y (by simpa using hy)) ?_) ⟨ho₁, R.hand h3, fun h' tk' e hx => ?_⟩
    · intro m' hm'
      have hmc : m' < c.length := by omega
      have := isStrOf_at (k := t) hstr m' (by simpa [hlen] using hmc) hmc
      have hne : (c[m'] == t) = false := by
        rw [beq_eq_false_iff_ne]; rintro rfl
        exact hin (List.contains_iff_mem.mpr (List.getElem_mem hmc))
      rw [hne] at this
      simpa using this
    · refine catches (ρ := ρ) (s := { s₁ with toks := tk' }) L.toOk hfr hf hfun₁ (F₁.go (Step.tok (tk := tk'))).st hx hve (L.none _ (by decide)) (by decide +kernel) (by decide) (by decide) PySem.F.isExc_ValueError PySem.F.notTuple_ValueError (PySem.F.self_ValueError) fun s₂ E' x₂ => ?_
      have F₂ := (F₁.go (Step.tok (tk := tk'))).go x₂
      have hfun₂ := FunFr.step (s := { s₁ with toks := tk' }) L.toOk hfun₁ x₂
      have hwk : St Γ X env (vw ((z, b, sD m) :: π₀ ++ [(x, a, sD c)]) ++ ρ) s₂ := F₂.view
      have e2 : sD m ++ [.str t] = sD (m ++ [t]) := by simp [sD]
      refine Go.run (Go.cons (wpAny_Expr (wpAny_Call_append hbz hfew hl2 htr (wpAny_Name ?_ hdbz)) hi hsw2))
      refine via fun G ret => ?_
      obtain ⟨h0, zs, z4, z5⟩ := F₂.priv (z, b, sD m) (by simp)
      obtain ⟨mm, hn, _, hm⟩ := h0 hz0
      refine ret (wpAny_loadName_local F₂.st.glob.2.2 hkz hn hm ⟨b, zs, rfl, ?_, ?_⟩)
      · obtain ⟨n', e⟩ := z4; exact ⟨_, n', e, rfl, rfl, rfl⟩
      refine (ev_name (n := 2) (ρ := ρ) hy hdby hcly : Ev Γ 2 env ρ _ _) _ _ s₂ _ _ (R.mark (by decide) (by omega)) F₂.st fun v s₃ rv x₃ => ?_
      have F₃ := F₂.go x₃
      refine via fun G ret => ?_
      obtain ⟨_, zs₃, z4, z5⟩ := F₃.priv (z, b, sD m) (by simp)
      refine ret ?_
      have z5' : RepL X s₃.heap (sD m) zs₃.toList := RepL.sub (fun b hb => List.mem_append_right _ hb) _ _ z5
      refine wpAny_list_append_plain z4 (fun h₄ hl₄ hs₄ => ?_) (by
        have := z5'.len
        have h3 : zs₃.toList.length = zs₃.size := by simp
        have h4 := sD_len m
        unfold sizeLine; omega)
      have u : Upd b s₃ { s₃ with heap := h₄ } := Upd.same (tk := s₃.toks) hs₄
      have F' := F₃.mut (π₁ := []) (l' := sD (m ++ [t])) (ys := zs₃.push v) u hl₄ sD_sc (by
        rw [Array.toList_push, ← e2]
        obtain ⟨tk2, rfl⟩ := rep_str.mp rv
        exact (Sc.repL sD_sc z5').append (repL_cons.mpr ⟨_, [], rfl, rep_str.mpr ⟨tk2, rfl⟩, repL_nil.mpr rfl⟩))
      refine Go.nil (k _ F' fun env' he' => ?_)
      obtain ⟨g0, Lf, of, es, nn, g1, g2, g3, g4⟩ := hfun₂.step L.toOk x₃ env' he'
      refine ⟨g0, Lf, of, es, nn, g1, g2, u.at ?_ g3, g4⟩
      rintro rfl
      obtain ⟨n5, e5⟩ := z4
      rw [e5] at g3; cases g3; cases g4
end Mine

namespace Mine
variable {Γ : Cfg} {n : Nat} {env : Env} {ρ : List (Str × D)} {X : List Addr} {s₀ s : Shared} {pins : List (Addr × Obj)} {π : Pv} {A : Around} {Q : Flow → Shared → Prop} {E : Value → Shared → Prop} {rest : List Stmt}

theorem op_isnot_adr {a : Nat} : Op2 Γ n (compareOp .IsNot) (.adr a) (.adr a) (.bool false) := fun A X s v u Q E _ _ hv hu k => by
  rw [rep_adr] at hv hu; subst hv hu
  exact wpAny_bind (wpAny_isSame_ref_self (wpAny_pure (k _ s (rep_bool.mpr rfl) (Step.refl _))))

/-- a tuple of addresses is given back -/
theorem x_retA {e pos d} (he : Ev Γ n env (vwA π ++ ρ) e d) (R : Room n A) (F : Fm Γ X env s₀ pins π ρ s) (k : ∀ v s', Rep X s'.heap d v → Fm Γ X env s₀ pins π ρ s' → Q (.ret v) s') :
    Go Γ A (.Return (some e) pos :: rest) env Q E s :=
  Go.cons (wpAny_Return_some (he A _ s _ E R F.viewA fun v s₁ r x₁ => k v s₁ r (F.go x₁)))

theorem uo_len : ∀ (e m c : List (List Nat)), (uo e m c).1.length ≤ m.length + e.length ∧ (uo e m c).2.length ≤ c.length
  | [], m, c => by simp [uo]
  | x :: r, m, c => by
    unfold uo
    split
    · have := uo_len r m (c.erase x)
      have := List.length_erase_le (a := x) (l := c)
      simp; omega
    · have := uo_len r (m ++ [x]) c
      simp at this ⊢; omega

theorem un_call (L : Law Γ) (Rm : Room0 (n + 1) A) (hn : 5 ≤ n) {outer : List Env} (hfr : A.frames = some outer) (hfun : FunFr Γ s.heap outer) {a b : Addr} {xs ys : List (List Nat)} {va vb : Array Value} (hab : a ≠ b)
    (B : Base Γ X s.heap) (Pa : s.heap.PlainList a va) (Pb : s.heap.PlainList b vb) (Ra : RepL X s.heap (sD xs) va.toList) (Rb : RepL X s.heap (sD ys) vb.toList) (ha : Γ.h.get? a = none ∧ a ∉ X) (hb : Γ.h.get? b = none ∧ b ∉ X)
    (hx : xs.length ≤ 500) (hy : ys.length ≤ 500) {R : Result → Shared → Prop}
    (k : ∀ v s' M, Step Γ [] (sans s [b, a]) s' → Rep X s'.heap (.tup [.adr M, .adr b]) v → s.heap.get? M = none →
      (∃ ym, s'.heap.PlainList M ym ∧ RepL X s'.heap (sD (uo xs.reverse [] ys).1) ym.toList) → (∃ ya, s'.heap.PlainList a ya ∧ RepL X s'.heap [] ya.toList) → (∃ yb, s'.heap.PlainList b yb ∧ RepL X s'.heap (sD (uo xs.reverse [] ys).2) yb.toList) → R (.ok (.ret v)) s') :
    codeAny Γ.M A (.call (.ref 63) ⟨[.ref a, .ref b], []⟩) R s := by
  refine via fun G ret => ?_
  obtain ⟨pm, c, doc, o, h1, h2, h3, h4, h5, h6, h7, h8⟩ := L.d10.parts
  refine ret ?_
  have hbind : bindArgs (Calls.docDef (nameOf (stAt 10)) (parOf (stAt 10)) (bodyOf (stAt 10)) (scopeOf (stAt 10)) pm (.ref c) doc) ⟨[.ref a, .ref b], []⟩ = (pure [(("expected" : Str), .ref a), (("actual" : Str), .ref b)] : Sem (List (Str × Value))) := rfl
  refine codeAny_call_cells (body := bodyOf (stAt 10)) Rm.depth (B.old _ _ h1 h5 h6) h2 (B.lim L.toOk) (B.code h3 h7 h8) rfl hbind rfl (fun x hx => ?_) (fun s₁ I => ?_)
  · rcases List.mem_cons.mp hx with rfl | hx
    · exact .inl rfl
    · have : x = (("actual" : Str), .ref b) := by simpa using hx
      subst this
      exact .inl rfl
  generalize henv : callEnvC (Calls.docDef (nameOf (stAt 10)) (parOf (stAt 10)) (bodyOf (stAt 10)) (scopeOf (stAt 10)) pm (.ref c) doc) s.heap.objs.size 63 = env at I ⊢
  have oa : ∃ o, s.heap.get? a = some o ∧ ∀ vs, o.data ≠ .fields vs := by obtain ⟨n', e⟩ := Pa; exact ⟨_, e, fun vs h => by cases h⟩
  have ob : ∃ o, s.heap.get? b = some o ∧ ∀ vs, o.data ≠ .fields vs := by obtain ⟨n', e⟩ := Pb; exact ⟨_, e, fun vs h => by cases h⟩
  have hall : ∀ z ∈ [b, a], Γ.h.get? z = none ∧ z ∉ X ∧ ∃ o, s.heap.get? z = some o ∧ ∀ vs, o.data ≠ .fields vs := fun z hz => by
    rcases List.mem_cons.mp hz with rfl | hz
    · exact ⟨hb.1, hb.2, ob⟩
    · have : z = a := by simpa using hz
      subst this; exact ⟨ha.1, ha.2, oa⟩
  have Bσ : Base Γ X (sans s [b, a]).heap := sans_base B hall
  have xσ : Step Γ [] (sans s [b, a]) s := sans_step (Y := X) fun z hz => (hall z hz).2.2
  have x₁ : Step Γ [] s s₁ := by
    obtain ⟨h', tk, rfl⟩ := I.toInCall.same
    exact Step.of_keeps I.toInCall.keep
  have x₀₁ : Step Γ [] (sans s [b, a]) s₁ := xσ.trans x₁
  have hLs : s.heap.get? env.locals = none := Heap.get?_none_of_le I.toInCall.fresh
  have back : ∀ z, s.heap.get? z = none → (sans s [b, a]).heap.get? z = none := fun z hz => fresh_back xσ Bσ hz
  have gn : ∀ z ∈ [b, a], (sans s [b, a]).heap.get? z = none := fun z hz => PyProof.Rows.TI.gone_none hz
  refine via fun G ret => ?_
  obtain ⟨na, ea⟩ := id Pa
  obtain ⟨nb, eb⟩ := id Pb
  refine ret ?_
  have ea₁ := I.toInCall.keep _ _ ea
  have eb₁ := I.toInCall.keep _ _ eb
  have hcells : env.cells = [] := by rw [← henv]; rfl
  have B₁ : Base Γ (a :: b :: X) s₁.heap := ((x₁.base B).aside (Da := b) eb₁ (fun vs h => by cases h)).aside (Da := a) ea₁ (fun vs h => by cases h)
  have F : Fm Γ X env (sans s [b, a]) [] [("expected", a, sD xs), ("actual", b, sD ys)] [] s₁ := by
    refine ⟨Bσ, x₀₁, fun I' hI => ?_, fun y c' hc' => (by rw [hcells] at hc'; cases hc'), (by rw [hcells]; exact List.Pairwise.nil), ⟨B₁, (by rw [← henv]; exact ⟨rfl, rfl, rfl⟩), _, I.toInCall.ns, fun x d hx => (by simp at hx)⟩, fun p hp => ?_, (by simpa [adr] using hab), by simp⟩
    · rcases hI with rfl | ⟨y, h⟩ | h
      · exact back _ hLs
      · rw [hcells] at h; cases h
      · refine gn I' ?_
        have h' : I' = a ∨ I' = b := by simpa [adr] using h
        rcases h' with rfl | rfl <;> simp
    · rcases List.mem_cons.mp hp with rfl | hp
      · exact ⟨fun _ => ⟨_, I.toInCall.ns, (by rw [← henv]; rfl), (by rw [← henv]; rfl)⟩, va, ⟨na, ea₁⟩, Sc.repL sD_sc Ra⟩
      · have : p = (("actual" : Str), b, sD ys) := by simpa using hp
        subst this
        exact ⟨fun _ => ⟨_, I.toInCall.ns, (by rw [← henv]; rfl), (by rw [← henv]; rfl)⟩, vb, ⟨nb, eb₁⟩, Sc.repL sD_sc Rb⟩
  have R' : Room n (A.deeper env) := Rm.deeper (by rw [← henv]; exact ⟨rfl, rfl, rfl, rfl⟩)
  have hfr' : (A.deeper env).frames = some (env :: outer) := by show A.frames.map _ = _; rw [hfr]; rfl
  have hfunL : ∀ {π ρ s'}, Fm Γ X env (sans s [b, a]) [] π ρ s' → FunFr Γ s'.heap (env :: outer) := fun {π ρ s'} F e he => by
    rcases List.mem_cons.mp he with rfl | he
    · obtain ⟨m', ⟨o, es, ep, e1, e2, _⟩, _⟩ := F.st.vars
      exact ⟨(by rw [← henv]; intro h; cases h), e.locals, o, es, ep, (by rw [← henv]; rfl), (fresh_ne B hLs).1, e1, e2⟩
    · obtain ⟨hk, Lf, o, es, nn, g1, g2, g3, g4⟩ := hfun e he
      have g5 : (sans s [b, a]).heap.get? Lf = some o := (PyProof.Rows.TI.gone_get fun hm => by
        rcases List.mem_cons.mp hm with rfl | hm
        · rw [eb] at g3; cases g3; cases g4
        · have : Lf = a := by simpa using hm
          subst this; rw [ea] at g3; cases g3; cases g4).trans g3
      have h86 : Lf ≠ 86 := by rintro rfl; rw [L.t1] at g2; cases g2
      have h103 : Lf ≠ 103 := by rintro rfl; rw [L.t2] at g2; cases g2
      obtain ⟨sl, e'⟩ := F.step.frm Lf o g5 h86 h103
      exact ⟨hk, Lf, _, es, nn, g1, g2, e', g4⟩
  subst henv
  refine Go.run ?_
  refine x_new (Γ := Γ) (n := n) .nil (fun d hd => by simp at hd) R' F fun M s₂ F₂ => ?_
  refine x_whileI (n := n) (α := List (List Nat) × List (List Nat) × List (List Nat)) (fun t => t.2.1.length) (fun _ => []) (fun t => [("missing", M, sD t.1), ("expected", a, sD t.2.1), ("actual", b, sD t.2.2)])
    (fun t => uo t.2.1.reverse t.1 t.2.2 = uo xs.reverse [] ys ∧ t.1.length + t.2.1.length ≤ 500 ∧ t.2.2.length ≤ 500) ([], xs, ys) R' F₂ ⟨rfl, by simpa using hx, hy⟩ ?_
  rintro ⟨m, e, q⟩ ⟨hu, hm, hq⟩
  dsimp only at hu hm hq ⊢
  rcases List.eq_nil_or_concat e with rfl | ⟨e', x, rfl⟩
  · refine .inr ⟨(tr_val (ev_name rfl) (tr_list (by simp [sD]))).to (by simp [sD]), fun s' F' => ?_⟩
    refine x_retA (n := n) (d := .tup [.adr M, .adr b]) (ev_tup (.cons (ev_name rfl) rfl (.cons (ev_name rfl) rfl .nil))) R' F' fun v s₃ rv F₃ => ?_
    have hnd := F₃.nodup
    have hMa : M ∉ [b, a] := by
      have : (M ≠ a ∧ M ≠ b) ∧ a ≠ b := by simpa [adr] using hnd
      simp; exact ⟨this.1.2, this.1.1⟩
    have hM : s.heap.get? M = none := by
      have := F₃.fresh M (.inr (.inr (by simp [adr])))
      rwa [show (sans s [b, a]).heap.get? M = s.heap.get? M from PyProof.Rows.TI.gone_get hMa] at this
    rw [List.reverse_nil, uo] at hu
    rw [← hu] at k
    obtain ⟨_, y1, p1, q1⟩ := F₃.priv ("missing", M, sD m) (by simp)
    obtain ⟨_, y2, p2, q2⟩ := F₃.priv ("expected", a, sD []) (by simp)
    obtain ⟨_, y3, p3, q3⟩ := F₃.priv ("actual", b, sD q) (by simp)
    exact k v s₃ M F₃.step rv hM ⟨y1, p1, Sc.repL sD_sc q1⟩ ⟨y2, p2, Sc.repL (fun d hd => by simp at hd) q2⟩ ⟨y3, p3, Sc.repL sD_sc q3⟩
  · have hlen : (e' ++ [x]).length = e'.length + 1 := by simp
    rw [List.concat_eq_append] at *
    refine .inl ⟨(tr_val (ev_name rfl) (tr_list (by rw [sD_len]; omega))).to (by simp [sD]), (if q.contains x then m else m ++ [x], e', if q.contains x then q.erase x else q), ⟨?_, ?_, ?_⟩, (by show e'.length < (e' ++ [x]).length; omega), fun s' Q' E' F' kk => ?_⟩
    · rw [← hu, List.reverse_append]
      simp only [List.reverse_cons, List.reverse_nil, List.nil_append, List.singleton_append, List.cons_append]
      rw [uo]; split <;> rfl
    · dsimp only; split
      · omega
      · rw [List.length_append]; simp only [List.length_singleton]; omega
    · have := List.length_erase_le (a := x) (l := q)
      dsimp only; split <;> omega
    · have e2 : sD (e' ++ [x]) = sD e' ++ [.str x] := by simp [sD]
      rw [e2] at F'
      refine x_pop (π₁ := [("missing", M, sD m)]) (π₂ := [("actual", b, sD q)]) F' (fun d' hd' => by rw [← e2] at hd'; exact sD_sc d' hd') (fun s₃ F₃ => ?_) (by rw [sD_len]; omega)
      refine Go.cons (x_remove (n := n) L (π₀ := [("expected", a, sD e')]) F₃ (t := x) rfl R' (by omega) hfr' rfl (hfunL F₃) (by omega) (by omega) (fun s₄ F₄ _ => Go.nil (kk s₄ (F₄.weak weak_nil))))
end Mine

namespace Mine
variable {Γ : Cfg} {n : Nat} {env : Env} {ρ : List (Str × D)} {X : List Addr} {s₀ s : Shared} {pins : List (Addr × Obj)} {π : Pv} {A : Around} {Q : Flow → Shared → Prop} {E : Value → Shared → Prop} {rest : List Stmt}

/-- a def, on data, gives a datum back; the frames around it are told -/
noncomputable def FnF (Γ : Cfg) (n : Nat) (a : Addr) (ds : List D) (d : D) : Prop :=
  ∀ A X s vals R outer, Room0 n A → A.frames = some outer → FunFr Γ s.heap outer → Base Γ X s.heap → RepL X s.heap ds vals → (∀ v s', Rep X s'.heap d v → Step Γ [] s s' → R (.ok (.ret v)) s') → codeAny Γ.M A (.call (.ref a) ⟨vals, []⟩) R s
theorem fn_introF {name : Str} {params : Arguments} {body : List Stmt} {dl rt tp scope ts bd pos} {a : Addr} {ds : List D} {d : D} (ps : List Str) (K : Γ.Ok) (h : Defd Γ a (.FunctionDef name params body dl rt tp scope ts bd pos))
    (hb : ∀ A X s₀ env s E Q pm c doc outer, A.frames = some (env :: outer) → FunFr Γ s₀.heap outer → env = callEnvC (Calls.docDef name params body scope pm (.ref c) doc) s₀.heap.objs.size a → Room n A → Fm Γ X env s₀ [] [] (ps.zip ds) s → (∀ v s', Rep X s'.heap d v → Step Γ [] s₀ s' → Q (.ret v) s') →
      Go Γ A body env Q E s)
    (hlen : ps.length = ds.length := by rfl)
    (hps : ∀ pm c doc vals, vals.length = ps.length → bindArgs (Calls.docDef name params body scope pm c doc) ⟨vals, []⟩ = pure (ps.zip vals))
    (hnd : ps.Nodup := by decide) (hcn : ((cellsFrom 0 scope.names []).map (·.1)).Nodup := by decide)
    (hk : ∀ pm c doc L, ps.all (nameOk (callEnvC (Calls.docDef name params body scope pm c doc) L a) []) = true := by intro _ _ _ _; rfl)
    (hco : scope.isCoroutine = false := by rfl) (hgen : scope.isGenerator = false := by rfl) (hkind : scope.kind = .function := by rfl) : FnF Γ (n + 1) a ds d := by
  obtain ⟨pm, c, doc, o, h1, h2, h3, h4, h5, h6, h7, h8⟩ := h
  intro A X s vals R outer Rm hfr hfun B rv k
  have hv : vals.length = ps.length := by rw [hlen, rv.len]
  have hfst : (ps.zip vals).map (·.1) = ps := by rw [List.map_fst_zip]; omega
  refine codeAny_call_cells Rm.depth (B.old a o h1 h5 h6) h2 (B.lim K) (B.code h3 h7 h8) rfl (hps _ _ _ vals hv) rfl (fun x hx => ?_) (fun s₁ I => ?_) hco hgen hkind
  · have hm : x.1 ∈ ps := by rw [← hfst]; exact List.mem_map.mpr ⟨x, hx, rfl⟩
    exact nameOk.kind (List.all_eq_true.mp (hk pm (.ref c) doc s.heap.objs.size) x.1 hm)
  · generalize henv : callEnvC (Calls.docDef name params body scope pm (.ref c) doc) s.heap.objs.size a = env at I ⊢
    have x₁ : Step Γ [] s s₁ := by
      obtain ⟨h', tk, rfl⟩ := I.toInCall.same
      exact Step.of_keeps I.toInCall.keep
    have hL : s.heap.get? env.locals = none := Heap.get?_none_of_le I.toInCall.fresh
    have hC : ∀ y c, (y, c) ∈ env.cells → s.heap.get? c = none := fun y c hc => Heap.get?_none_of_le (Nat.le_of_lt (Nat.lt_of_le_of_lt I.toInCall.fresh (I.above y c hc)))
    have hcn' : (env.cells.map (·.1)).Nodup := by
      subst henv
      show ((cellsFrom _ scope.names []).map (·.1)).Nodup
      rw [cellsFrom_names scope.names _ 0 [] [] rfl]; exact hcn
    have F : Fm Γ X env s [] [] (ps.zip ds) s₁ := by
      refine ⟨B, x₁, fun I' hI => ?_, fun y c hc => ?_, I.apart, ⟨x₁.base B, ?_, _, I.toInCall.ns, fun x d hx => ?_⟩, by simp, by simp [adr], by simp⟩
      · rcases hI with rfl | ⟨y, h⟩ | h
        · exact hL
        · exact hC y I' h
        · simp [adr] at h
      · exact ⟨_, I.cell y c (lookup_of_mem hcn' hc)⟩
      · subst henv; exact ⟨rfl, rfl, hkind⟩
      · obtain ⟨v, hl, hr⟩ := zip_rep rv x d hx
        have hm : x ∈ ps := by rw [← hfst]; exact List.mem_map.mpr ⟨_, mem_of_lookup hl, rfl⟩
        refine ⟨v, x₁.rep B hr, ?_⟩
        have hkk := List.all_eq_true.mp (hk pm (.ref c) doc s.heap.objs.size) x hm
        rw [henv] at hkk
        rcases nameOk.kind hkk with hk1 | ⟨hk1, hk2⟩
        · exact .inl ⟨hk1, bindL_look hk1 (by rw [hfst]; exact hnd) hl⟩
        · obtain ⟨c', hc'⟩ := Option.isSome_iff_exists.mp hk2
          refine .inr ⟨.inl hk1, c', hc', ?_⟩
          have := I.cell x c' hc'
          rwa [bindC_look hk1 (by rw [hfst]; exact hnd) hl] at this
    have fine : FineEnv env := by subst henv; exact ⟨rfl, rfl, hgen, hco⟩
    exact (hb _ X s env s₁ _ _ pm c doc outer (by show A.frames.map _ = _; rw [hfr]; rfl) hfun henv.symm (Rm.deeper fine) F fun v s' rv' x' => k v s' rv' x').run

theorem Fm.frames {outer : List Env} (K : Γ.Ok) (F : Fm Γ X env s₀ pins π ρ s) (hfun : FunFr Γ s₀.heap outer) (hf : env.frame = some env.locals) (hk : env.scope.kind = .function) : FunFr Γ s.heap (env :: outer) := fun e he => by
  rcases List.mem_cons.mp he with rfl | he
  · obtain ⟨m', ⟨o, es, ep, e1, e2, _⟩, _⟩ := F.st.vars
    exact ⟨(by rw [hk]; intro h; cases h), e.locals, o, es, ep, hf, (fresh_ne F.base₀ (F.fresh _ (.inl rfl))).1, e1, e2⟩
  · obtain ⟨hk, Lf, o, es, nn, g1, g2, g3, g4⟩ := hfun e he
    have h86 : Lf ≠ 86 := by rintro rfl; rw [K.t1] at g2; cases g2
    have h103 : Lf ≠ 103 := by rintro rfl; rw [K.t2] at g2; cases g2
    obtain ⟨sl, e'⟩ := F.step.frm Lf o g3 h86 h103
    exact ⟨hk, Lf, _, es, nn, g1, g2, e', g4⟩

theorem x_skipS {ρt : List (Str × D)} {t body pos} (S : St Γ X env ρt s) (ht : Tr Γ n env ρt t false) (R : Room n A) (F : Fm Γ X env s₀ pins π ρ s)
    (k : ∀ s', Fm Γ X env s₀ pins π ρ s' → Go Γ A rest env Q E s') : Go Γ A (.If t body [] pos :: rest) env Q E s :=
  Go.cons (wpAny_If (ht A _ s _ E R S fun s₁ x₁ => by
    rw [if_neg (by decide)]
    exact (Go.nil (k s₁ (F.go x₁))).run))

/-- one, two = (list(_ancestry(a)), list(_ancestry(b))) -/
theorem x_anc2 (L : Law Γ) {x y : Str} {k1 k2 p1 p2 p3 p4 pos e e' a1 a2 a3 a4 b1 b2 b3 b4 nm nm' m m'} {t t' : Nat → List Nat} (N : Anc nm m t) (N' : Anc nm' m' t') (hm : m ≤ 1000) (hm' : m' ≤ 1000) (he : Ev Γ n env ρ e (.str nm)) (he' : Ev Γ n env ρ e' (.str nm'))
    (hn : 16 ≤ n) (R : Room n A) (F : Fm Γ X env s₀ pins π ρ s)
    (k : ∀ a b s', Fm Γ X env s₀ pins ((y, b, (List.range m').map fun j => .str (t' j)) :: (x, a, (List.range m).map fun j => .str (t j)) :: π) ρ s' → Go Γ A rest env Q E s')
    (hx : nameOk env π x = true := by rfl) (hkx : env.kindOf x = some .local := by rfl) (hlx : ρ.lookup x = none := by rfl) (hx0 : x ≠ "" := by decide)
    (hy : nameOk env π y = true := by rfl) (hky : env.kindOf y = some .local := by rfl) (hly : ρ.lookup y = none := by rfl) (hy0 : y ≠ "" := by decide) (hxy : x ≠ y := by decide)
    (hs : starEach [e] env = [(false, eval e env)] := by rfl) (hs' : starEach [e'] env = [(false, eval e' env)] := by rfl)
    (hk : env.kindOf "list" = some .globalImplicit := by rfl) (hk2 : env.kindOf "_ancestry" = some .globalImplicit := by rfl)
    (h1 : swapsWithSole [.Tuple [.Name x p1, .Name y p2] k1 p3] (.Tuple [.Call (.Name "list" a1) [.Call (.Name "_ancestry" a2) [e] [] a3] [] a4, .Call (.Name "list" b1) [.Call (.Name "_ancestry" b2) [e'] [] b3] [] b4] k2 p4) pos.line env = pure false := by rfl)
    (hw : swappedStores [.Tuple [.Name x p1, .Name y p2] k1 p3] (.Tuple [.Call (.Name "list" a1) [.Call (.Name "_ancestry" a2) [e] [] a3] [] a4, .Call (.Name "list" b1) [.Call (.Name "_ancestry" b2) [e'] [] b3] [] b4] k2 p4) env = pure (some [x, y]) := by rfl) :
    Go Γ A (.Assign [.Tuple [.Name x p1, .Name y p2] k1 p3] (.Tuple [.Call (.Name "list" a1) [.Call (.Name "_ancestry" a2) [e] [] a3] [] a4, .Call (.Name "list" b1) [.Call (.Name "_ancestry" b2) [e'] [] b3] [] b4] k2 p4) pos :: rest) env Q E s := by
  have sc : ∀ {m} {t : Nat → List Nat}, ∀ d ∈ (List.range m).map fun j => D.str (t j), Sc d := fun {m t} d hd => by
    obtain ⟨j, _, rfl⟩ := List.mem_map.mp hd; trivial
  refine Go.cons (Assign_Tuple_swapped ?_ h1 hw)
  refine wpAny_Tuple (spliced_more (anc_raw L N hm he hn hs hk hk2 R F.st fun a s₁ acc c x₁ hf ha hr => ?_) rfl)
  have F₁ := F.adopt x₁ hf ⟨c, ha⟩ sc (RepL.sub (fun b hb => List.mem_append_right _ hb) _ _ hr)
  refine spliced_more (anc_raw L N' hm' he' hn hs' hk hk2 R F₁.st fun b s₂ acc' c' x₂ hf' hb hr' => ?_) rfl
  have F₂ := F₁.adopt x₂ hf' ⟨c', hb⟩ sc (RepL.sub (fun b hb => List.mem_append_right _ hb) _ _ hr')
  refine spliced_none ⟨by show 2 ≤ sizeLine; decide, ?_⟩
  have F₃ := F₂.go (Step.push (o := { cls := .type "tuple", data := .seq #[.ref a, .ref b] }) (tk := s₂.toks))
  refine unpackItems_tuple (items := #[.ref a, .ref b]) (R.hand (by omega)) ⟨_, Heap.get?_push_size _ rfl, rfl, _, rfl⟩ fun h' he' => ?_
  have x₄ : Step Γ [] { s₂ with heap := s₂.heap.push { cls := .type "tuple", data := .seq #[.ref a, .ref b] }, toks := s₂.toks } { s₂ with heap := h', toks := s₂.toks } :=
    Step.of_keeps fun b o e => he' b o (Nat.ne_of_lt (Heap.lt_size e)) e
  have F₄ := F₃.go x₄
  show wpAny Γ.M A (assignInOrder [bindName env y, bindName env x] [.ref b, .ref a]) _ _ _
  refine wpAny_assignInOrder_more (wpAny_bindName (Fm.name (π₁ := []) F₄ hky (fun p hp => ?_) hly hy0 fun s₅ F₅ => ?_))
  · rcases List.mem_cons.mp hp with rfl | hp
    · exact Ne.symm hy0
    · exact nameOk.priv hy p hp
  refine wpAny_assignInOrder_more (wpAny_bindName (Fm.name (π₁ := [(y, b, _)]) F₅ hkx (fun p hp => ?_) hlx hx0 fun s₆ F₆ => wpAny_assignInOrder_none (k _ _ s₆ F₆)))
  rcases List.mem_cons.mp hp with rfl | hp
  · exact Ne.symm hxy
  · exact nameOk.priv hx p hp
end Mine

namespace Mine
variable {Γ : Cfg} {n : Nat} {env : Env} {ρ : List (Str × D)} {X : List Addr} {s₀ s : Shared} {pins : List (Addr × Obj)} {π : Pv} {A : Around} {Q : Flow → Shared → Prop} {E : Value → Shared → Prop} {rest : List Stmt}

theorem x_told (L : Law Γ) {x : Str} {p fp pos pos' : Pos} {e1 e2 : Expr} {n1 n2 : Str} {a b : Addr} {xs ys : List (List Nat)} {outer : List Env} (R : Room n A) (hn : 6 ≤ n) (hfr : A.frames = some (env :: outer)) (hfun : FunFr Γ s.heap (env :: outer))
    (F : Fm Γ X env s₀ pins [(n2, b, sD ys), (n1, a, sD xs)] ρ s) (ha : Evs Γ n env (vwA [(n2, b, sD ys), (n1, a, sD xs)] ++ ρ) [e1, e2] [.adr a, .adr b]) (hx : xs.length ≤ 500) (hy : ys.length ≤ 500)
    (k : ∀ s', Fm Γ X env s₀ pins [(n2, b, sD (uo xs.reverse [] ys).2), (n1, a, [])] (put x (.tup [.list (sD (uo xs.reverse [] ys).1), .adr b]) ρ) s' → Go Γ A rest env Q E s')
    (hnx : nameOk env [(n2, b, sD (uo xs.reverse [] ys).2), (n1, a, [])] x = true := by rfl) (hk : env.kindOf "unorderable_list_difference" = some .globalImplicit := by rfl)
    (hs : swapsWith (.Call (.Name "unorderable_list_difference" fp) [e1, e2] [] pos) (some (.Name x p)) pos'.line env = pure false := by rfl) :
    Go Γ A (.Assign [.Name x p] (.Call (.Name "unorderable_list_difference" fp) [e1, e2] [] pos) pos' :: rest) env Q E s := by
  have f := L.d10.isFn
  obtain ⟨o, fd, ho, hfd⟩ := f.there
  refine Go.cons (wpAny_Assign_Name (wpAny_Call_NameR (wp_glob L.toOk F.view hk f.name ?_)) hs)
  refine Calls.callWith_function (o := o) (fd := fd) (evs_args ha R F.viewA fun vs s₁ r₁ x₁ => ?_)
  have F₁ := F.go x₁
  refine ⟨⟨F₁.view.base.old _ _ ho f.n1 f.n2, hfd⟩, ?_⟩
  have hvs : vs = [.ref a, .ref b] := by
    obtain ⟨v1, v2, e, hv1, hv2⟩ := repL2 r₁
    rw [rep_adr] at hv1 hv2
    rw [e, hv1, hv2]
  clear r₁
  subst hvs
  refine via fun G ret => ?_
  obtain ⟨_, vb, pb, qb⟩ := F₁.priv (n2, b, sD ys) (by simp)
  obtain ⟨_, va, pa, qa⟩ := F₁.priv (n1, a, sD xs) (by simp)
  refine ret ?_
  clear ret
  have hnd := F₁.nodup
  have hba : b ≠ a := by simpa [adr] using hnd
  have fr : ∀ z ∈ [b, a], s₀.heap.get? z = none ∧ Γ.h.get? z = none ∧ z ∉ X := fun z hz => by
    have hz' := F₁.fresh z (.inr (.inr hz))
    refine ⟨hz', (fresh_ne F₁.base₀ hz').1, fun hX => ?_⟩
    obtain ⟨o, e, _⟩ := F₁.base₀.priv z hX
    rw [hz'] at e; cases e
  refine wpAny_call (un_call (n := n - 1) L (R.1.le (by omega)) (by omega) hfr (hfun.step L.toOk x₁) (Ne.symm hba) F₁.view.base pa pb (Sc.repL sD_sc qa) (Sc.repL sD_sc qb) (fr a (by simp)).2 (fr b (by simp)).2 hx hy fun v s₂ M x₂ rv hM ⟨ym, pm, qm⟩ ⟨ya, pa', qa'⟩ ⟨yb, pb', qb'⟩ => ?_)
  have F₂ : Fm Γ X env s₀ pins [(n2, b, sD (uo xs.reverse [] ys).2), (n1, a, [])] ρ s₂ := F₁.shift x₂ rfl fun p hp => by
    rcases List.mem_cons.mp hp with rfl | hp
    · exact ⟨sD_sc, yb, pb', qb'⟩
    · have : p = (n1, a, []) := by simpa using hp
      subst this
      exact ⟨(fun d hd => by simp at hd), ya, pa', qa'⟩
  obtain ⟨T, vs, rfl, ⟨hT, hTX⟩, hr⟩ := rep_tup.mp rv
  obtain ⟨w1, w2, rfl, hw1, hw2⟩ := repL2 (hr)
  rw [rep_adr] at hw1 hw2; subst hw1 hw2
  have nl : ∀ z y, s₂.heap.PlainList z y → z ≠ T := fun z y ⟨n5, e5⟩ h => by
    subst h
    obtain ⟨oT, e6, c6, _⟩ := hT
    rw [e5] at e6; cases e6; exact absurd (show Value.type "list" = Value.type "tuple" from c6) (by decide)
  have offM : M ∉ [b, a] ++ X := fun hm => by
    rcases List.mem_append.mp hm with h | h
    · obtain ⟨n5, e5⟩ := id pb
      obtain ⟨n6, e6⟩ := id pa
      rcases List.mem_cons.mp h with rfl | h
      · rw [hM] at e5; cases e5
      · have : M = a := by simpa using h
        subst this; rw [hM] at e6; cases e6
    · obtain ⟨o, e, _⟩ := F₁.view.base.priv _ h
      rw [hM] at e; cases e
  have rM : Rep ([b, a] ++ X) s₂.heap (.list (sD (uo xs.reverse [] ys).1)) (.ref M) := rep_list.mpr ⟨M, ym.toList, rfl, by
    have e2 : ym.toList.toArray = ym := by simp
    rw [e2]; exact plain_LO pm offM, Sc.repL sD_sc qm⟩
  refine F₂.store (d := .tup [.list (sD (uo xs.reverse [] ys).1), .adr b]) (rep_tup.mpr ⟨T, _, rfl, ⟨hT, fun hm => ?_⟩, repL_cons.mpr ⟨_, _, rfl, rM, repL_cons.mpr ⟨_, _, rfl, rep_adr.mpr rfl, repL_nil.mpr rfl⟩⟩⟩) (nameOk.kind hnx) (nameOk.priv hnx) fun s₃ F₃ => k s₃ F₃
  rcases List.mem_append.mp hm with h | h
  · have h' : T = b ∨ T = a := by simpa [adr] using h
    rcases h' with rfl | rfl
    · exact nl _ _ pb' rfl
    · exact nl _ _ pa' rfl
  · exact hTX h

/-! ## the ways -/
noncomputable def wstep (ac : List Nat → List (List Nat)) (w : List Nat × List (List Nat) × List (List Nat)) (x : List Nat) : List Nat × List (List Nat) × List (List Nat) :=
  let p := uo (ac x).reverse [] (ac w.1)
  (x, w.2.1 ++ p.1, w.2.2 ++ p.2)
noncomputable def wf (ac : List Nat → List (List Nat)) (names : List (List Nat)) : List Nat × List (List Nat) × List (List Nat) := names.foldl (wstep ac) ([], [], [])
theorem wf_snoc (ac) (l : List (List Nat)) (x) : wf ac (l ++ [x]) = wstep ac (wf ac l) x := by simp [wf]
noncomputable def Acs (ac : List Nat → List (List Nat)) (nm : List Nat) : Prop := ∃ m t, Anc nm m t ∧ m ≤ 20 ∧ ac nm = (List.range m).map t
theorem Acs.len {ac nm} (h : Acs ac nm) : (ac nm).length ≤ 20 := by
  obtain ⟨m, t, _, hm, e⟩ := h
  rw [e]; simpa using hm
theorem wf_len {ac : List Nat → List (List Nat)} {all : List (List Nat)} (h0 : Acs ac []) (h : ∀ x ∈ all, Acs ac x) : ∀ j, j ≤ all.length →
    Acs ac (wf ac (all.take j)).1 ∧ (wf ac (all.take j)).2.1.length ≤ 20 * j ∧ (wf ac (all.take j)).2.2.length ≤ 20 * j
  | 0, _ => by simpa [wf] using h0
  | j + 1, hj => by
    obtain ⟨h1, h2, h3⟩ := wf_len h0 h j (by omega)
    have hg : all[j]? = some all[j] := List.getElem?_eq_getElem (by omega)
    rw [mem_take_succ hg, wf_snoc]
    have hx := h all[j] (List.getElem_mem _)
    obtain ⟨u1, u2⟩ := uo_len (ac all[j]).reverse [] (ac (wf ac (all.take j)).1)
    have l1 := hx.len
    have l2 := h1.len
    rw [List.length_reverse] at u1
    refine ⟨hx, ?_, ?_⟩
    · simp only [wstep, List.length_append] at *; simp at u1; omega
    · simp only [wstep, List.length_append] at *; omega
end Mine

namespace Mine
variable {Γ : Cfg} {n : Nat} {env : Env} {ρ : List (Str × D)} {X : List Addr} {s₀ s : Shared} {pins : List (Addr × Obj)} {π : Pv} {A : Around} {Q : Flow → Shared → Prop} {E : Value → Shared → Prop} {rest : List Stmt}

theorem x_whole {ρ' : List (Str × D)} {s : Shared} (F : Fm Γ X env s₀ pins π ρ s) (h : ∀ x d, ρ'.lookup x = some d → ∃ d₀, (vwA π ++ ρ).lookup x = some d₀ ∧ ∀ v, Rep X s.heap d₀ v → Rep X s.heap d v) : St Γ X env ρ' s := by
  have := (F.opened h).st
  simpa [adr] using this
theorem opn_nil {s : Shared} {ρ : List (Str × D)} : ∀ x d, ([] : List (Str × D)).lookup x = some d → ∃ d₀, ρ.lookup x = some d₀ ∧ ∀ v, Rep X s.heap d₀ v → Rep X s.heap d v := fun x d h => by simp at h
theorem opn_cons {s : Shared} {ρ r : List (Str × D)} {x : Str} {d d₀ : D} (h : ρ.lookup x = some d₀) (hr : ∀ v, Rep X s.heap d₀ v → Rep X s.heap d v) (t : ∀ y e, r.lookup y = some e → ∃ d₀, ρ.lookup y = some d₀ ∧ ∀ v, Rep X s.heap d₀ v → Rep X s.heap e v) :
    ∀ y e, ((x, d) :: r).lookup y = some e → ∃ d₀, ρ.lookup y = some d₀ ∧ ∀ v, Rep X s.heap d₀ v → Rep X s.heap e v := fun y e hy => by
  rw [List.lookup_cons] at hy
  split at hy
  · rename_i hxy
    have : y = x := by simpa using hxy
    subst this; cases hy; exact ⟨d₀, h, hr⟩
  · exact t y e hy
theorem adr_list {s : Shared} {x : Str} {a : Addr} {l : List D} (F : Fm Γ X env s₀ pins π ρ s) (h : (x, a, l) ∈ π) : ∀ v, Rep X s.heap (.adr a) v → Rep X s.heap (.list l) v := fun v hv => by
  rw [rep_adr] at hv; subst hv; exact F.listAt h

theorem fn_ways (L : Law Γ) {ac : List Nat → List (List Nat)} {names : List (List Nat)} (h0 : Acs ac []) (hN : ∀ x ∈ names, Acs ac x) (hl : names.length ≤ 10) :
    FnF Γ 30 96 [.list (sD names)] (.tup [.list (sD (wf ac names).2.1), .list (sD (wf ac names).2.2)]) := by
  refine fn_introF ["names"] L.toOk L.d16 (fun A X s₀ env s E Q pm c doc outer hfr hfun he R F k => ?_) (hps := fun pm c doc vals hv => by obtain ⟨a, rfl⟩ := zip1 hv; rfl)
  subst he
  refine x_tups ["here", "downs", "ups"] (ds := [.str [], .list [], .list []]) (ev_tup (.cons (ev_strk (l := [])) rfl (.cons (ev_list .nil) rfl (.cons (ev_list .nil) rfl .nil)))) R F (fun s F => ?_) (st_bind (st_bind (st_bind .nil)))
  refine x_for (fun j => [("names", .list (sD names)), ("here", .str (wf ac (names.take j)).1), ("downs", .list (sD (wf ac (names.take j)).2.1)), ("ups", .list (sD (wf ac (names.take j)).2.2))]) (fun _ => [])
    (forIt_list (ev_name (x := "names") rfl) sD_sc) R (F.weak (weak_cons rfl (weak_cons rfl (weak_cons rfl (weak_cons rfl weak_nil))))) sD_sc (fun _ => rfl) (fun j d hd pins' s Q' E' F kn kr => ?_) (fun s F => ?_)
  · have hj : j < names.length := by
      have := (List.getElem?_eq_some_iff.mp hd).1; simpa [sD] using this
    have hg : names[j]? = some names[j] := List.getElem?_eq_getElem hj
    have hd' : d = .str names[j] := by
      rw [sD_get hg] at hd; exact (Option.some.inj hd).symm
    subst hd'
    obtain ⟨w1, w2, w3⟩ := wf_len h0 hN j (by omega)
    have hx := hN names[j] (List.getElem_mem _)
    have lx := hx.len
    have lh := w1.len
    obtain ⟨m, t, N, hm, e⟩ := hx
    obtain ⟨m', t', N', hm', e'⟩ := w1
    have e1 : ((List.range m).map fun i => D.str (t i)) = sD (ac names[j]) := by rw [e]; simp [sD]
    have e2 : ((List.range m').map fun i => D.str (t' i)) = sD (ac (wf ac (names.take j)).1) := by rw [e']; simp [sD]
    refine x_anc2 L N N' (by omega) (by omega) (ev_name rfl) (ev_name rfl) (by decide) R F fun a b s F => ?_
    rw [e1, e2] at F
    refine x_told L (n1 := "one") (n2 := "two") R (by decide) hfr (F.frames L.toOk hfun rfl rfl) F (.cons (ev_name rfl) rfl (.cons (ev_name rfl) rfl .nil)) (by omega) (by omega) fun s F => ?_
    refine x_skipS (x_whole F (ρ' := [("one", .list []), ("two", .adr b), ("told", .tup [.list (sD (uo (ac names[j]).reverse [] (ac (wf ac (names.take j)).1)).1), .adr b])]) (opn_cons rfl (adr_list F (x := "one") (by simp)) (opn_cons rfl (fun v h => h) (opn_cons rfl (fun v h => h) opn_nil))))
      ((tr_or (tr_cmp (ev_name rfl) (ev_list .nil) op_ne_nil) (fun _ => tr_cmp (ev_item_tup (k := 1) (ev_name rfl) ev_int (by decide) (by decide) rfl) (ev_name rfl) op_isnot_adr)).to rfl) R F fun s F => ?_
    have u := uo_len (ac names[j]).reverse [] (ac (wf ac (names.take j)).1)
    rw [List.length_reverse] at u
    simp only [List.length_nil, Nat.zero_add] at u
    have F := F.opened (ρ' := [("names", .list (sD names)), ("here", .str (wf ac (names.take j)).1), ("downs", .list (sD (wf ac (names.take j)).2.1)), ("ups", .list (sD (wf ac (names.take j)).2.2)), ("name", .str names[j]),
      ("told", .tup [.list (sD (uo (ac names[j]).reverse [] (ac (wf ac (names.take j)).1)).1), .list (sD (uo (ac names[j]).reverse [] (ac (wf ac (names.take j)).1)).2)])])
      (opn_cons rfl (fun v h => h) (opn_cons rfl (fun v h => h) (opn_cons rfl (fun v h => h) (opn_cons rfl (fun v h => h) (opn_cons rfl (fun v h => h) (opn_cons rfl (fun v h => by
        obtain ⟨T, vs, rfl, hT, hr⟩ := rep_tup.mp h
        obtain ⟨v1, v2, rfl, h1, h2⟩ := repL2 (hr)
        exact rep_tup.mpr ⟨T, _, rfl, hT, repL_cons.mpr ⟨v1, _, rfl, h1, repL_cons.mpr ⟨v2, _, rfl, adr_list F (x := "two") (by simp) _ h2, repL_nil.mpr rfl⟩⟩⟩) opn_nil))))))
    refine x_tups ["downs", "ups", "here"] (ds := [.list (sD (wf ac (names.take j)).2.1 ++ sD (uo (ac names[j]).reverse [] (ac (wf ac (names.take j)).1)).1), .list (sD (wf ac (names.take j)).2.2 ++ sD (uo (ac names[j]).reverse [] (ac (wf ac (names.take j)).1)).2), .str names[j]])
      (ev_tup (.cons (ev_bin (ev_name rfl) (ev_item_tup (k := 0) (ev_name rfl) ev_int (by decide) (by decide) rfl) (op_addl (by rw [sD_len, sD_len]; omega))) rfl
        (.cons (ev_bin (ev_name rfl) (ev_item_tup (k := 1) (ev_name rfl) ev_int (by decide) (by decide) rfl) (op_addl (by rw [sD_len, sD_len]; omega))) rfl (.cons (ev_name rfl) rfl .nil)))) R F (fun s F => ?_) (st_bind (st_bind (st_bind .nil)))
    refine Go.nil (kn s ?_)
    have e3 : wf ac (names.take (j + 1)) = (names[j], (wf ac (names.take j)).2.1 ++ (uo (ac names[j]).reverse [] (ac (wf ac (names.take j)).1)).1, (wf ac (names.take j)).2.2 ++ (uo (ac names[j]).reverse [] (ac (wf ac (names.take j)).1)).2) := by
      rw [mem_take_succ hg, wf_snoc]; rfl
    refine F.weak ?_
    rw [e3]
    refine weak_cons rfl (weak_cons rfl (weak_cons ?_ (weak_cons ?_ weak_nil)))
    · show some _ = some _; simp [sD]
    · show some _ = some _; simp [sD]
  · have e : names.take (sD names).length = names := by rw [sD_len]; simp
    rw [e] at F
    exact x_ret (ev_tup (.cons (ev_name rfl) rfl (.cons (ev_name rfl) rfl .nil))) R F k
end Mine

namespace Mine
variable {Γ : Cfg} {n : Nat} {env : Env} {ρ : List (Str × D)} {X : List Addr} {s₀ s : Shared} {pins : List (Addr × Obj)} {π : Pv} {A : Around} {Q : Flow → Shared → Prop} {E : Value → Shared → Prop} {rest : List Stmt}

/-! ## exceptions that arise while another one is handled -/
noncomputable def HOk (A : Around) (s : Shared) : Prop := A.handled = none ∨ ∃ e0 o0 v0, A.handled = some (.ref e0) ∧ s.heap.get? e0 = some o0 ∧ o0.data = .fields v0 ∧ v0[2]? = some .none

theorem plain_unchain : plainId "proto.unchain" = true := by decide +kernel
theorem entry_unchain : entryFor table "proto.unchain" = some Builtin.«proto.unchain» := entryFor_of_tree (by kernel_rfl)

noncomputable def Ctx0 (A : Around) (h' : Heap) (e : Addr) : Prop := A.handled = none → ∃ ob vs, h'.get? e = some ob ∧ ob.data = .fields vs ∧ vs[2]? = some .none
theorem raise_words {α : Type} {cls msg : String} {Q : α → Shared → Prop} {E : Value → Shared → Prop} {prog : Program} {w : World} (hp : PlainExc cls) (hA : HOk A s)
    (h : ∀ h' tk e, Heap.NewExcOf s.heap h' e cls → Ctx0 A h' e → E (.ref e) { s with heap := h', toks := tk }) :
    wpAny (model prog w) A (raiseErrorWords cls msg : Sem α) Q E s := by
  unfold raiseErrorWords
  refine wpAny_bind (wpAny_mkText (wpAny_bind ?_))
  unfold newExc newTuple
  refine wpAny_bind (wpAny_newObj_type ?_)
  refine wpAny_bind (m := firstArgMember _ _) (wpAny_of_eq (a := Value.none) (by simp only [firstArgMember, hp.first]; rfl) ?_)
  rw [hp.own]
  refine wpAny_newObj_type ?_
  unfold raiseNew
  refine wpAny_bind (wpAny_handled ?_)
  rcases hA with hh | ⟨e0, o0, v0, hh, h0, d0, c0⟩
  · rw [hh]
    first
      | refine wpAny_throw ?_
      | refine wpAny_bind (wpAny_pure (wpAny_throw ?_))
    exact h _ _ _ ⟨fun b o hb => Heap.get?_push_of_some _ (Heap.get?_push_of_some _ hb), Heap.get?_none_of_le (by simp), _, _, Heap.get?_push_size _ rfl, rfl, rfl, rfl⟩ fun _ => ⟨_, _, Heap.get?_push_size _ rfl, rfl, rfl⟩
  · rw [hh]
    generalize hH : s.heap.push _ = H1
    have hlt := Heap.lt_size h0
    have hsz : H1.objs.size = s.heap.objs.size + 1 := by rw [← hH, Heap.size_push]
    have k1 : ∀ b o, s.heap.get? b = some o → H1.get? b = some o := fun b o e => hH ▸ Heap.get?_push_of_some _ e
    have hne : e0 ≠ H1.objs.size := Nat.ne_of_lt (by rw [hsz]; exact Nat.lt_succ_of_lt hlt)
    show wpAny (model prog w) A (if (Value.ref e0 != Value.ref H1.objs.size) = true then (do
      let _ ← holding [Value.ref H1.objs.size] (runValue (.builtin "proto.unchain" ⟨[Value.ref H1.objs.size, .ref e0, .ref e0, .bool false], []⟩))
      updateField H1.objs.size 2 (.ref e0)
      throw (Value.ref H1.objs.size)) else throw (Value.ref H1.objs.size)) Q E _
    have hbne : (Value.ref e0 != Value.ref H1.objs.size) = true := by simpa using hne
    rw [if_pos hbne]
    have h0' : (H1.push { cls := .type cls, data := .fields #[.ref s.heap.objs.size, .none, .none, .none, .bool false, .none] }).get? e0 = some o0 := Heap.get?_push_of_some _ (k1 _ _ h0)
    refine wpAny_bind (wpAny_holding (wpAny_runValue (codeAny_builtin entry_unchain ?_)))
    rw [Around.under_plainId plain_unchain _]
    show wpAny _ _ (do
      let context ← field (.ref e0) 2
      if context == .none then return ← ret .none
      if context == Value.ref H1.objs.size then
        rule "raise.context-cycle-cut"
        setField (.ref e0) 2 .none
        return ← ret .none
      if context == Value.ref e0 then rule "raise.context-old-cycle"; return ← ret .none
      let slow ← if false then field (.ref e0) 2 else pure (Value.ref e0)
      again (.builtin "proto.unchain" ⟨[Value.ref H1.objs.size, context, slow, .bool !false], []⟩)) _ _ _
    refine wpAny_bind (wpAny_field h0' d0 c0 ?_)
    rw [if_pos (by decide)]
    refine wpAny_bind (wpAny_pure (wpAny_pure ?_))
    have hnew : (H1.push { cls := .type cls, data := .fields #[.ref s.heap.objs.size, .none, .none, .none, .bool false, .none] }).get? H1.objs.size = some { cls := .type cls, data := .fields #[.ref s.heap.objs.size, .none, .none, .none, .bool false, .none] } := Heap.get?_push_size _ rfl
    unfold updateField
    refine wpAny_bind (wpAny_bind (wpAny_load hnew ?_))
    dsimp only
    rw [if_pos (by show 2 < 6; decide)]
    refine wpAny_update hnew (wpAny_throw ?_)
    have hup := Heap.get?_update_self (Obj.mapFields (·.setIfInBounds 2 (.ref e0))) hnew rfl
    have hoth : ∀ b o, s.heap.get? b = some o → ((H1.push { cls := .type cls, data := .fields #[.ref s.heap.objs.size, .none, .none, .none, .bool false, .none] }).update H1.objs.size (Obj.mapFields (·.setIfInBounds 2 (.ref e0)))).get? b = some o := fun b o e => by
      have hb : b ≠ H1.objs.size := Nat.ne_of_lt (by rw [hsz]; exact Nat.lt_succ_of_lt (Heap.lt_size e))
      exact (Heap.get?_update_other _ _ (Ne.symm hb)).trans (Heap.get?_push_of_some _ (k1 _ _ e))
    exact h _ _ _ ⟨hoth, Heap.get?_none_of_le (by rw [hsz]; exact Nat.le_succ _), _, _, hup, rfl, rfl, rfl⟩ fun hn => by rw [hh] at hn; cases hn

theorem getItem_out {l : Addr} {items : Array Value} {k : Int} {t : Tok} {Q : Value → Shared → Prop} {E : Value → Shared → Prop} {prog : Program} {w : World} (hA : HOk A s) (hl : s.heap.IsList l items)
    (hout : (items.size : Int) ≤ k) (hlo : -(2 ^ 63) ≤ k) (hhi : k < 2 ^ 63) (hE : ∀ h' tk e, Heap.NewExcOf s.heap h' e "IndexError" → Ctx0 A h' e → E (.ref e) { s with heap := h', toks := tk }) :
    wpAny (model prog w) A (getItem (.ref l) (.int k t)) Q E s := by
  obtain ⟨o, ho, hc, ne, hd⟩ := id hl
  unfold getItem
  try with_reducible refine wpAny_holding ?_
  first | refine wpAny_bind (wpAny_pure ?_) | skip
  refine wpAny_bind (wpAny_sequenceKey hl.typeIs (by decide) ?_)
  refine wpAny_bind (wpAny_callSpecial?_slot (name := Str.ofString "__getitem__") hl.typeIs slot_list_getitem
    (wpAny_call_entry slot_list_getitem hl.typeIs entry_list_getitem ?_ (args_list_getitem _ _)))
  show wpAny _ _ (Builtin.List.listSubscript? (.int k t) >>= _) _ _ s
  refine wpAny_bind (wpAny_listSubscript_int (fitsIndex_both hlo hhi) ?_)
  clear hlo hhi
  cases k with
  | ofNat j =>
    have hx : items[j]? = none := Array.getElem?_eq_none (by have : (items.size : Int) ≤ (j : Int) := hout; omega)
    show wpAny _ _ ((seqItemAt l j >>= fun r => pure (r.map (j, ·))) >>= _) _ _ s
    refine wpAny_bind (wpAny_bind (wpAny_seqItemAt ho hd (wpAny_pure ?_)))
    rw [hx]
    first
      | exact wpAny_bind (wpAny_rule (raise_words plainExc_IndexError hA hE))
      | exact wpAny_bind (wpAny_rule (wpAny_bind (raise_words plainExc_IndexError hA hE)))
      | exact wpAny_bind (wpAny_bind (wpAny_rule (raise_words plainExc_IndexError hA hE)))
      | exact wpAny_rule (raise_words plainExc_IndexError hA hE)
  | negSucc j => exact absurd hout (by have := Int.negSucc_lt_zero j; omega)
end Mine

namespace Mine
variable {Γ : Cfg} {n : Nat} {env : Env} {ρ : List (Str × D)} {X : List Addr} {s₀ s : Shared} {pins : List (Addr × Obj)} {π : Pv} {A : Around} {Q : Flow → Shared → Prop} {E : Value → Shared → Prop} {rest : List Stmt}

/-- the first note of an exception in its frame -/
theorem note_first {outer : List Env} {Lf e : Addr} {h₁ : Heap} {oe : Obj} {vs : Array Value} {Q : Unit → Shared → Prop} {E : Value → Shared → Prop} {M : Model} (hfr : A.frames = some (env :: outer)) (hf : env.frame = some Lf) (F : FunFr Γ h₁ (env :: outer))
    (he : h₁.get? e = some oe) (hd : oe.data = .fields vs) (h1 : vs[1]? = some .none)
    (k : ∀ h' T ts, (∀ b o, h₁.get? b = some o → b ∉ locs (env :: outer) → b ≠ e → h'.get? b = some o) → (∀ b o, h₁.get? b = some o → b ≠ e → ∃ sl, h'.get? b = some { o with slots := sl }) → h₁.get? T = none →
      h'.get? e = some (oe.mapFields (·.setIfInBounds 1 (.ref T))) → h'.get? T = some { cls := .type "traceback", dict := none, data := .fields ts, slots := #[] } → ts[3]? = some (rawInt Lf) → 3 < ts.size → ts[1]? = some (.ref Lf) → Q () { s with heap := h' }) :
    wpAny M A (noteFrame (.ref e) env) Q E { s with heap := h₁ } := by
  have hfun : h₁.FunFrames (PyProof.Rows.TI.gone h₁ (locs (env :: outer))) (env :: outer) := funFrames (Γl := locs (env :: outer)) (fun b hb => PyProof.Rows.TI.gone_none hb) F fun b hb => hb
  have hsz : 1 < vs.size := (Array.getElem?_eq_some_iff.mp h1).1
  have hene : e ∉ (env :: outer).filterMap (·.frame) := fun hm => by
    obtain ⟨_, o, es, n, ho, hn⟩ := F.mem hm
    rw [he] at ho; cases ho; rw [hd] at hn; cases hn
  unfold noteFrame
  simp only [hf]
  refine wpAny_bind (wpAny_field he hd h1 ?_)
  rw [if_neg (by decide)]
  refine wpAny_bind (wpAny_frameOf_fun hfr hfun hf fun h₂ hs₂ => ?_)
  refine wpAny_bind (wpAny_entryPlaceOf fun pl hpl => ?_)
  unfold EntryCells.newEntry newFields
  refine wpAny_bind (wpAny_newObj_type ?_ (hpl.sizeOk5 _ _ _ _ _))
  have he₂ : h₂.get? e = some oe := (hs₂.2.1 e hene).trans he
  have he₃ := Heap.get?_push_of_some (h := h₂) { cls := .type "traceback", dict := none, data := .fields ([Value.none, .ref Lf, .none, rawInt Lf, .none] ++ (if pl.isEmpty then List.replicate 6 Value.none else pl)).toArray } he₂
  have hTe : h₂.objs.size ≠ e := Nat.ne_of_gt (Heap.lt_size he₂)
  have hd₃ := Obj.data_mapFields hd (·.setIfInBounds 1 (Value.ref h₂.objs.size))
  refine wpAny_setField he₃ hd hsz (k _ h₂.objs.size _ (fun b o eb hb hbe => ?_) (fun b o eb hbe => ?_) ?_ (Heap.get?_update_self _ he₃ (Obj.isFreed_of_fields hd₃)) ((Heap.get?_update_other _ _ (Ne.symm hTe)).trans (Heap.get?_push_size h₂ rfl)) ?_ ?_ ?_)
  · rw [Heap.get?_update_other _ _ (Ne.symm hbe)]
    exact Heap.get?_push_of_some _ ((hs₂.2.1 b hb).trans eb)
  · obtain ⟨sl, e2⟩ := hs₂.2.2 b o eb
    rw [Heap.get?_update_other _ _ (Ne.symm hbe)]
    exact ⟨sl, Heap.get?_push_of_some _ e2⟩
  · exact Heap.get?_none_of_le (by rw [hs₂.1]; exact Nat.le_refl _)
  · first | (simp; done) | (rcases hpl with rfl | ⟨_, _, _, _, _, _, _, rfl⟩ <;> simp)
  · first | (simp; done) | (rcases hpl with rfl | ⟨_, _, _, _, _, _, _, rfl⟩ <;> simp)
  · first | (simp; done) | (rcases hpl with rfl | ⟨_, _, _, _, _, _, _, rfl⟩ <;> simp)

/-- an exception in hand: its object, and its note of this frame -/
structure Exc (e T : Addr) (fl : Value) (oe oT : Obj) : Prop where
  cls : oe.cls = .type "IndexError"
  flds : ∃ vs, oe.data = .fields vs ∧ vs[1]? = some (.ref T)
  tb : ∃ ts, oT.data = .fields ts ∧ ts[3]? = some fl ∧ (∀ q t, ts[1]? ≠ some (.str q t)) ∧ 3 < ts.size
  ne : T ≠ e

theorem Exc.note {e T L : Addr} {oe oT : Obj} {Q : Unit → Shared → Prop} {E : Value → Shared → Prop} {M : Model} (X' : Exc e T (rawInt L) oe oT) (hf : env.frame = some L) (he : s.heap.get? e = some oe) (hT : s.heap.get? T = some oT) (h : Q () s) :
    wpAny M A (noteFrame (.ref e) env) Q E s := by
  obtain ⟨vs, hd, h1⟩ := X'.flds
  obtain ⟨ts, ht, h3, _⟩ := X'.tb
  exact wpAny_noteFrame_inFlight hf he hd h1 hT ht h3 h

/-- setFlight: one field of the note -/
theorem Exc.flight {e T : Addr} {fl : Value} {oe oT : Obj} {f : Option Addr} {Q : Unit → Shared → Prop} {E : Value → Shared → Prop} {M : Model} (X' : Exc e T fl oe oT) (he : s.heap.get? e = some oe) (hT : s.heap.get? T = some oT)
    (k : ∀ h' oT', Upd T s { s with heap := h' } → h'.get? T = some oT' → Exc e T (f.elim .none fun f => rawInt f) oe oT' → Q () { s with heap := h' }) :
    wpAny M A (setFlight (.ref e) f) Q E s := by
  obtain ⟨vs, hd, h1⟩ := X'.flds
  obtain ⟨ts, ht, h3, hn, hsz⟩ := X'.tb
  unfold setFlight
  refine wpAny_bind (wpAny_field he hd h1 ?_)
  rw [if_pos (show (Value.ref T != Value.none) = true from by simp)]
  have hd₃ := Obj.data_mapFields ht (·.setIfInBounds 3 (f.elim .none fun f => rawInt f))
  refine wpAny_setField hT ht hsz (k _ _ ⟨_, s.toks, rfl, fun b o hb e => (Heap.get?_update_other _ _ (Ne.symm hb)).trans e⟩ (Heap.get?_update_self _ hT (Obj.isFreed_of_fields hd₃)) ⟨X'.cls, X'.flds, ⟨_, hd₃, by simp [hsz], fun q t => ?_, by simpa using hsz⟩, X'.ne⟩)
  rw [Array.getElem?_setIfInBounds_ne (by decide)]
  exact hn q t
end Mine

namespace Mine
variable {Γ : Cfg} {n : Nat} {env : Env} {ρ : List (Str × D)} {X : List Addr} {s₀ s : Shared} {pins : List (Addr × Obj)} {π : Pv} {A : Around} {Q : Flow → Shared → Prop} {E : Value → Shared → Prop} {rest : List Stmt}

/-- an exception on its way within a frame -/
structure Fly (Γ : Cfg) (X : List Addr) (env : Env) (s₀ : Shared) (pins : List (Addr × Obj)) (π : Pv) (ρ : List (Str × D)) (e T : Addr) (fl : Value) (oe oT : Obj) (s : Shared) : Prop where
  fm : Fm Γ X env s₀ ((T, oT) :: (e, oe) :: pins) π ρ s
  exc : Exc e T fl oe oT
  fr : s₀.heap.get? T = none
  ne : ∀ p ∈ pins, p.1 ≠ T

theorem Fly.note {e T L : Addr} {oe oT : Obj} {Q : Unit → Shared → Prop} {E : Value → Shared → Prop} (Y : Fly Γ X env s₀ pins π ρ e T (rawInt L) oe oT s) (hf : env.frame = some L) (h : Q () s) : wpAny Γ.M A (noteFrame (.ref e) env) Q E s :=
  Y.exc.note hf (Y.fm.pin (e, oe) (by simp)).1 (Y.fm.pin (T, oT) (by simp)).1 h
theorem Fly.flight {e T : Addr} {fl : Value} {oe oT : Obj} {f : Option Addr} {Q : Unit → Shared → Prop} {E : Value → Shared → Prop} (Y : Fly Γ X env s₀ pins π ρ e T fl oe oT s)
    (k : ∀ s' oT', Fly Γ X env s₀ pins π ρ e T (f.elim .none fun f => rawInt f) oe oT' s' → Q () s') : wpAny Γ.M A (setFlight (.ref e) f) Q E s := by
  obtain ⟨p1, p2, p3, p4⟩ := Y.fm.pin (T, oT) (by simp)
  refine Y.exc.flight (Y.fm.pin (e, oe) (by simp)).1 p1 fun h' oT' u hT' X' => k _ oT' ?_
  obtain ⟨ts, ht, _, hn, _⟩ := Y.exc.tb
  have hp : ∀ p ∈ (e, oe) :: pins, p.1 ≠ T := fun p hp => by
    rcases List.mem_cons.mp hp with rfl | hp
    · exact Ne.symm Y.exc.ne
    · exact Y.ne p hp
  have hN : NotCode oT := fun vs hv q t => by rw [ht] at hv; cases hv; exact hn q t
  have F' := Y.fm.drop Y.fr hp u hN ⟨ts, ht⟩
  obtain ⟨ts', ht', _⟩ := X'.tb
  exact ⟨F'.addPin hT' p2 p3 ⟨p4.1, by intro es n h; rw [ht'] at h; cases h⟩, X', Y.fr, Y.ne⟩
theorem Fly.back {e T L : Addr} {fl : Value} {oe oT : Obj} {E : Value → Shared → Prop} (Y : Fly Γ X env s₀ pins π ρ e T fl oe oT s) (hf : env.frame = some L) (k : ∀ s' oT', Fly Γ X env s₀ pins π ρ e T (rawInt L) oe oT' s' → E (.ref e) s') :
    cameBackBy Γ.M A env E (.ref e) s := by
  obtain ⟨vs, hd, h1⟩ := Y.exc.flds
  unfold cameBackBy
  refine wpAny_bind (wpAny_field (Y.fm.pin (e, oe) (by simp)).1 hd h1 ?_)
  rw [if_neg (by simp)]
  rw [hf]
  exact Y.flight fun s' oT' Y' => k s' oT' Y'
theorem Fly.pass {α : Type} {e T L : Addr} {fl : Value} {oe oT : Obj} {what : String} {Q : α → Shared → Prop} {E : Value → Shared → Prop} (Y : Fly Γ X env s₀ pins π ρ e T fl oe oT s) (hf : env.frame = some L) (k : ∀ s' oT', Fly Γ X env s₀ pins π ρ e T (rawInt L) oe oT' s' → E (.ref e) s') :
    wpAny Γ.M A (PySem.passOn what (.ref e) env : Sem α) Q E s := by
  obtain ⟨vs, hd, h1⟩ := Y.exc.flds
  unfold PySem.passOn
  refine wpAny_bind (wpAny_field (Y.fm.pin (e, oe) (by simp)).1 hd h1 ?_)
  rw [if_neg (by simp)]
  rw [hf]
  exact wpAny_bind (Y.flight fun s' oT' Y' => wpAny_throw (k s' oT' Y'))
theorem Fly.typeIs {e T : Addr} {fl : Value} {oe oT : Obj} (Y : Fly Γ X env s₀ pins π ρ e T fl oe oT s) : s.TypeIs (.ref e) "IndexError" := ⟨oe, (Y.fm.pin (e, oe) (by simp)).1, Y.exc.cls⟩

/-- the first note, told of the frame -/
theorem Fly.first {outer : List Env} {Lf e : Addr} {h₁ : Heap} {tk : Nat} {Q : Unit → Shared → Prop} {E : Value → Shared → Prop} (K : Γ.Ok) (hfr : A.frames = some (env :: outer)) (hf : env.frame = some Lf) (hfun : FunFr Γ s.heap (env :: outer)) (F : Fm Γ X env s₀ pins π ρ s)
    (hx : Heap.NewExcOf s.heap h₁ e "IndexError") (k : ∀ s' T oe oT, Fly Γ X env s₀ pins π ρ e T (rawInt Lf) oe oT s' → (∀ ob vs, h₁.get? e = some ob → ob.data = .fields vs → vs[2]? = some .none → ∃ vs', oe.data = .fields vs' ∧ vs'[2]? = some .none) → Q () s') :
    wpAny Γ.M A (noteFrame (.ref e) env) Q E { s with heap := h₁, toks := tk } := by
  obtain ⟨ob, vs, he, hcls, hd, h1⟩ := hx.there
  have F₁ := hfun.of_keeps hx.keeps
  have hsz : 1 < vs.size := (Array.getElem?_eq_some_iff.mp h1).1
  refine note_first (s := { s with toks := tk }) hfr hf F₁ he hd h1 fun h' T ts g1 g2 g3 g4 g5 g6 g7 g8 => ?_
  have hsT : s.heap.get? T = none := by
    cases e' : s.heap.get? T with
    | none => rfl
    | some o => have := hx.keeps _ _ e'; rw [g3] at this; cases this
  have hne : ∀ b o, s.heap.get? b = some o → b ≠ e := fun b o eb h => by rw [h, hx.new] at eb; cases eb
  have hneT : ∀ b o, s.heap.get? b = some o → b ≠ T := fun b o eb h => by rw [h, hsT] at eb; cases eb
  have xs : Step Γ [] s { s with heap := h', toks := tk } := by
    have := step_noted (X := X) K hfun (h' := h') (fun b o eb => by
      obtain ⟨hb, eb⟩ := PyProof.Rows.TI.gone_some eb
      exact g1 b o (hx.keeps _ _ eb) hb (hne b o eb)) fun b o eb _ => g2 b o (hx.keeps _ _ eb) (hne b o eb)
    exact this.trans Step.tok
  have F₂ := F.go xs
  obtain ⟨_, e86, e103⟩ := fresh_ne F.base hx.new
  obtain ⟨_, T86, T103⟩ := fresh_ne F.base hsT
  have hd' := Obj.data_mapFields hd (·.setIfInBounds 1 (Value.ref T))
  have hTe : T ≠ e := fun h => by subst h; rw [g3] at he; cases he
  have F₃ := F₂.addPin (I := e) g4 (F.notOwn hx.new) e86 ⟨e103, by intro es n h; rw [hd'] at h; cases h⟩
  have F₄ := F₃.addPin (I := T) g5 (F.notOwn hsT) T86 ⟨T103, by intro es n h; cases h⟩
  refine k _ T _ _ ⟨F₄, ⟨?_, ⟨_, hd', by simp [hsz]⟩, ⟨ts, rfl, g6, (fun q t h => by rw [g8] at h; cases h), g7⟩, hTe⟩, fresh_back F.step F.base₀ hsT, fun p hp => ?_⟩ fun ob' vs' e1 e2 e3 => ?_
  · rw [Obj.cls_mapFields]; exact hcls
  · obtain ⟨gp, _⟩ := F.pin p hp
    exact hneT _ _ gp
  · rw [he] at e1; cases e1
    rw [hd] at e2; cases e2
    exact ⟨_, hd', by rw [Array.getElem?_setIfInBounds_ne (by decide)]; exact e3⟩
end Mine

namespace Mine
variable {Γ : Cfg} {n : Nat} {env : Env} {ρ : List (Str × D)} {X : List Addr} {s₀ s : Shared} {pins : List (Addr × Obj)} {π : Pv} {A : Around} {Q : Flow → Shared → Prop} {E : Value → Shared → Prop} {rest : List Stmt}

/-- x[k:], the new list in hand -/
theorem from_raw {value u : Expr} {p pos : Pos} {l : List D} {k : Nat} {Q : Value → Shared → Prop} {E : Value → Shared → Prop} (hv : Ev Γ n env ρ value (.list l)) (hu : Ev Γ n env ρ u (.int k)) (hz : l.length ≤ 1000) (R : Room n A) (S : St Γ X env ρ s)
    (kk : ∀ S' s' acc c, Step Γ [] s s' → s.heap.get? S' = none → s'.heap.get? S' = some { cls := .type "list", dict := none, data := .seq acc c, slots := #[] } → RepL X s'.heap (l.drop k) acc.toList → Q (.ref S') s') :
    wpAny Γ.M A (eval (.Subscript value (.Slice (some u) none none p) pos) env) Q E s := by
  refine Subscript_ (hv A X s _ E R S fun v s₁ r₁ x₁ => wpAny_Slice (hu A X s₁ _ E R (S.step x₁) fun i s₂ r₂ x₂ => wpAny_evalPart_none (wpAny_evalPart_none ?_)))
  have B₂ := x₂.base (x₁.base S.base)
  obtain ⟨a, vs, rfl, hL, hr⟩ := rep_list.mp (x₂.rep (x₁.base S.base) r₁)
  have hl := hL.isList
  obtain ⟨t, rfl⟩ := rep_int.mp r₂
  refine tail_any (s := { s₂ with heap := _ }) (hl.push _).typeIs slot_list_getitem.lookup (wpAny_getItem_list_slice (hl.push _) (Heap.IsSliceOf.new ..) (.int _ _) .none .none (by simp) ?_ ?_) rfl
  · rw [pick_from]
    refine kk _ _ (vs.drop k).toArray 0 ((x₁.trans x₂).trans step_push2) ?_ (Heap.get?_push_size _ rfl) (by simpa using (step_push2 (Γ := Γ) (fl := []) (s := s₂)).repL B₂ (hr.drop k))
    exact fresh_back (x₁.trans x₂) S.base (Heap.get?_none_of_le (by rw [Heap.size_push]; exact Nat.le_succ _))
  · have := hr.len; rw [List.size_toArray, this]; unfold sizeLine; omega

/-- z.extend(x[i:]), z private -/
theorem x_extend {z : Str} {b : Addr} {m l : List (List Nat)} {k : Nat} {π₁ π₂ : Pv} {q1 q3 q4 r p pos : Pos} {value u : Expr} (F : Fm Γ X env s₀ pins (π₁ ++ (z, b, sD m) :: π₂) ρ s) (hv : Ev Γ n env ρ value (.list (sD l))) (hu : Ev Γ n env ρ u (.int k)) (R : Room n A)
    (hm : m.length ≤ 500) (hl : l.length ≤ 500)
    (kk : ∀ s', Fm Γ X env s₀ pins (π₁ ++ (z, b, sD (m ++ l.drop k)) :: π₂) ρ s' → Go Γ A rest env Q E s')
    (hkz : env.kindOf z = some .local := by rfl) (hz0 : z ≠ "" := by decide) (hdbz : (z == ("__debug__" : Str)) = false := by decide)
    (hbz : attributeBase (.Name z q1) "extend" env (eval (.Name z q1) env) = eval (.Name z q1) env := by rfl) (hs : starEach [.Subscript value (.Slice (some u) none none p) pos] env = [(false, eval (.Subscript value (.Slice (some u) none none p) pos) env)] := by rfl)
    (hline : (q3.endLine == q4.line) = true := by decide) (hi : interactive env = false := by rfl)
    (hsw : swapsWith (.Call (.Attribute (.Name z q1) "extend" q3) [.Subscript value (.Slice (some u) none none p) pos] [] q4) none r.line env = pure false := by rfl) :
    Go Γ A (.Expr (.Call (.Attribute (.Name z q1) "extend" q3) [.Subscript value (.Slice (some u) none none p) pos] [] q4) r :: rest) env Q E s := by
  refine Go.cons (wpAny_Expr (Call_method1 hbz hs hline (wpAny_Name ?_ hdbz)) hi hsw)
  obtain ⟨h0, ys, h4, h5⟩ := F.priv (z, b, sD m) (by simp)
  obtain ⟨mm, hn, _, hm'⟩ := h0 hz0
  obtain ⟨n', ho⟩ := id h4
  refine wpAny_loadName_local F.st.glob.2.2 hkz hn hm' ⟨"list", "list.extend", PySem.F.plainAttrs_list, PySem.F.slot_list_extend, PySem.F.type_list_extend, ⟨_, ho, rfl⟩, fun b hb => by cases hb; exact ⟨_, ho, rfl⟩, ?_⟩
  refine Calls.callWith_builtin rfl (Calls.evalArgs_plain (Calls.spliced_cons (from_raw hv hu (by rw [sD_len]; omega) R F.st fun S' s₁ acc c x₁ hf hS hr => Calls.spliced_nil ?_)))
  have F₁ := F.go x₁
  obtain ⟨_, ys₁, ⟨n₁, ho₁⟩, h5₁⟩ := F₁.priv (z, b, sD m) (by simp)
  have hr₁ : RepL X s₁.heap (sD m) ys₁.toList := RepL.sub (fun b hb => List.mem_append_right _ hb) _ _ h5₁
  have hl1 : ys₁.size = m.length := by have := hr₁.len; simpa [sD] using this
  have hl2 : acc.size ≤ l.length := by have := hr.len; simp [sD] at this; omega
  have hSb : S' ≠ b := fun h => by subst h; rw [hf] at ho; cases ho
  refine call_meets PySem.F.slot_list_extend ⟨_, ho₁, rfl⟩ PySem.F.entry_list_extend (PySem.F.args_list_extend_2 _ _)
    (PySem.AutoSeq1.list_extend_list_list_0 b ys₁ n₁ S' acc c (PyProof.Rows.extend_door (by unfold sizeLine; omega)) (by unfold sizeLine; omega) (by unfold sizeLine; omega)) ⟨ho₁, hS, ?_⟩
  have hup := Heap.get?_update_self (Obj.mapSeq fun x => x ++ acc) ho₁ rfl
  have u₂ : Upd b s₁ { s₁ with heap := s₁.heap.update b (Obj.mapSeq fun x => x ++ acc), toks := s₁.toks } := ⟨_, s₁.toks, rfl, fun c o hb e => (Heap.get?_update_other _ _ (Ne.symm hb)).trans e⟩
  refine kk _ (F₁.mut (l' := sD (m ++ l.drop k)) (ys := ys₁ ++ acc) u₂ ⟨_, hup⟩ sD_sc ?_)
  have e1 : sD (m ++ l.drop k) = sD m ++ (sD l).drop k := by simp [sD]
  rw [e1, Array.toList_append]
  exact (Sc.repL sD_sc hr₁).append (Sc.repL (fun d hd => sD_sc d (List.mem_of_mem_drop hd)) hr)

noncomputable abbrev EP (Γ : Cfg) (A : Around) (env : Env) (hs : List ExceptHandler) (Q : Flow → Shared → Prop) (E : Value → Shared → Prop) : Value → Shared → Prop := fun e s₁ =>
  wpAny Γ.M A (noteFrame e env) (fun _ s₂ => wpAny Γ.M A (setFlight e none) (fun _ s₃ => wpAny Γ.M A (handleBy e env hs) Q E s₃) E s₂) E s₁

theorem ep_held {e T Lf : Addr} {oe oT : Obj} {tp pos : Pos} {b₀ : Stmt} {suite : List Stmt} (L : Law Γ) (Y : Fly Γ X env s₀ pins π ρ e T (rawInt Lf) oe oT s) (hve : env.kindOf "IndexError" = some .globalImplicit)
    (k : ∀ s' E', Fm Γ X env s₀ pins π ρ s' → wpAny Γ.M (A.mark (some (.ref e))) (execs (b₀ :: suite) env) Q E' s') :
    wpAny Γ.M A (setFlight (.ref e) none) (fun _ s₃ => wpAny Γ.M A (handleBy (.ref e) env [.ExceptHandler (some (.Name "IndexError" tp)) none (b₀ :: suite) pos]) Q E s₃) E s := by
  refine Y.flight fun s₂ oT₂ Y₂ => ?_
  refine wpAny_handleBy_builtin PySem.F.isExc_IndexError PySem.F.notTuple_IndexError PySem.F.self_IndexError (wp_bi (v := .type "IndexError") L.toOk Y₂.fm.st hve (L.none _ (by decide)) (by decide +kernel) ⟨rfl, Y₂.typeIs, ?_⟩)
  rw [if_pos rfl]
  exact Y₂.flight fun s₃ oT₃ Y₃ => k _ _ (Y₃.fm.unpin (q := [_, _]))
theorem ep_fly {e T Lf : Addr} {oe oT : Obj} {tp pos : Pos} {b₀ : Stmt} {suite : List Stmt} (L : Law Γ) (hf : env.frame = some Lf) (Y : Fly Γ X env s₀ pins π ρ e T (rawInt Lf) oe oT s) (hve : env.kindOf "IndexError" = some .globalImplicit)
    (k : ∀ s' E', Fm Γ X env s₀ pins π ρ s' → wpAny Γ.M (A.mark (some (.ref e))) (execs (b₀ :: suite) env) Q E' s') :
    EP Γ A env [.ExceptHandler (some (.Name "IndexError" tp)) none (b₀ :: suite) pos] Q E (.ref e) s :=
  Y.note hf (ep_held L Y hve k)
theorem ep_new {e Lf : Addr} {outer : List Env} {h₁ : Heap} {tk : Nat} {tp pos : Pos} {b₀ : Stmt} {suite : List Stmt} (L : Law Γ) (hfr : A.frames = some (env :: outer)) (hf : env.frame = some Lf) (hfun : FunFr Γ s.heap (env :: outer)) (F : Fm Γ X env s₀ pins π ρ s)
    (hx : Heap.NewExcOf s.heap h₁ e "IndexError") (hve : env.kindOf "IndexError" = some .globalImplicit)
    (k : ∀ s' E', Fm Γ X env s₀ pins π ρ s' → wpAny Γ.M (A.mark (some (.ref e))) (execs (b₀ :: suite) env) Q E' s') :
    EP Γ A env [.ExceptHandler (some (.Name "IndexError" tp)) none (b₀ :: suite) pos] Q E (.ref e) { s with heap := h₁, toks := tk } :=
  Fly.first L.toOk hfr hf hfun F hx fun s' T oe oT Y _ => ep_held L Y hve k
end Mine

namespace Mine
variable {Γ : Cfg} {n : Nat} {env : Env} {ρ : List (Str × D)} {X : List Addr} {s₀ s : Shared} {pins : List (Addr × Obj)} {π : Pv} {A : Around} {Q : Flow → Shared → Prop} {E : Value → Shared → Prop} {rest : List Stmt}

theorem item_out {value slice : Expr} {pos : Pos} {l : List D} {k : Nat} {Q : Value → Shared → Prop} {E : Value → Shared → Prop} (hv : Ev Γ n env ρ value (.list l)) (hi : Ev Γ n env ρ slice (.int (k : Nat))) (hout : l.length ≤ k) (hk : k ≤ 1000)
    (hA : ∀ s', Step Γ [] s s' → HOk A s') (R : Room n A) (S : St Γ X env ρ s)
    (kE : ∀ s' h' tk e, Step Γ [] s s' → Heap.NewExcOf s'.heap h' e "IndexError" → Ctx0 A h' e → E (.ref e) { s' with heap := h', toks := tk })
    (hs : ∀ o i, subscripted slice false o i = operate [o, i] (getItem o i) := by intro _ _; with_unfolding_all rfl) : wpAny Γ.M A (eval (.Subscript value slice pos) env) Q E s := by
  refine Subscript_ (hv A X s _ E R S fun v s₁ r₁ x₁ => hi A X s₁ _ E R (S.step x₁) fun i s₂ r₂ x₂ => ?_)
  obtain ⟨a, vs, rfl, hL, hr⟩ := rep_list.mp (x₂.rep (x₁.base S.base) r₁)
  obtain ⟨t, rfl⟩ := rep_int.mp r₂
  have hlen := hr.len
  refine tail_any hL.isList.typeIs slot_list_getitem.lookup (getItem_out (hA _ (x₁.trans x₂)) hL.isList (by simp; omega) (by omega) (by omega) fun h' tk e hx hc => kE s₂ h' tk e (x₁.trans x₂) hx hc) (hs _ _)

/-- while x[i] == e: i += 1, where it ends at once or raises -/
theorem w_inner {xe ie ee : Expr} {p1 p2 pos : Pos} {body : List Stmt} {l : List (List Nat)} {k : Nat} {t : List Nat} {outer : List Env} {Lf : Addr} (L : Law Γ) (hx : Ev Γ n env ρ xe (.list (sD l))) (hi : Ev Γ n env ρ ie (.int (k : Nat))) (he : Ev Γ n env ρ ee (.str t))
    (hk : k ≤ 1000) (R : Room n A) (hfr : A.frames = some (env :: outer)) (hf : env.frame = some Lf) (hfun : FunFr Γ s.heap (env :: outer)) (F : Fm Γ X env s₀ pins π ρ s) (hA : ∀ s', Step Γ [] s s' → HOk A s')
    (hne : ∀ y, l[k]? = some y → y ≠ t)
    (kn : ∀ s', k < l.length → Fm Γ X env s₀ pins π ρ s' → Q .next s')
    (kE : ∀ s' e T oe oT, l.length ≤ k → Fly Γ X env s₀ pins π ρ e T (rawInt Lf) oe oT s' → (A.handled = none → ∃ vs, oe.data = .fields vs ∧ vs[2]? = some .none) → E (.ref e) s')
    (hm : behindInMarks .Eq ee = false := by with_unfolding_all rfl)
    (hs : ∀ o i, subscripted ie false o i = operate [o, i] (getItem o i) := by intro _ _; with_unfolding_all rfl) :
    wpAny Γ.M A (exec (.While (.Compare (.Subscript xe ie p1) [.Eq] [ee] p2) body [] pos) env) Q E s := by
  refine wpAny_While (codeAny_whileLoop (fun _ s' => s' = s) ?_ 0 rfl)
  rintro _ s' rfl
  by_cases hlt : k < l.length
  · have hg : (sD l)[((k : Nat) : Int).toNat]? = some (.str l[k]) := by simpa using sD_get (List.getElem?_eq_getElem hlt)
    have hfalse : (l[k] == t) = false := by
      rw [beq_eq_false_iff_ne]; exact hne _ (List.getElem?_eq_getElem hlt)
    refine ((tr_cmp (ev_item (k := ((k : Nat) : Int)) hx hi (by omega) (by omega) hg hs) he op_eqs hm).to hfalse) A _ s' _ _ R F.st fun s₁ x₁ => ?_
    rw [if_neg (by decide)]
    exact wpAny_execs_nil (kn s₁ hlt (F.go x₁))
  · refine wpAny_isTrue_Compare1 (item_out hx hi (by rw [sD_len]; omega) hk hA R F.st (fun s₁ h' tk e x₁ hx hc => ?_) hs) hm
    refine Fly.first L.toOk hfr hf (hfun.step L.toOk x₁) (F.go x₁) hx fun s₂ T oe oT Y hcx => ?_
    refine Y.back hf fun s₃ oT' Y' => kE s₃ e T oe oT' (by omega) Y' fun hn => ?_
    obtain ⟨ob, vs, e1, e2, e3⟩ := hc hn
    exact hcx ob vs e1 e2 e3

/-- while True: .. with a break -/
theorem x_whileB {α : Type} {test body pos} (m : α → Nat) (ρf : α → List (Str × D)) (πf : α → Pv) (Inv : α → Prop) (Fin : Shared → Prop) (a₀ : α) (R : Room n A) (F : Fm Γ X env s₀ pins (πf a₀) (ρf a₀) s) (h₀ : Inv a₀)
    (ht : ∀ ρ, Tr Γ n env ρ test true)
    (hbody : ∀ a, Inv a → ∀ s' Q' E', Fm Γ X env s₀ pins (πf a) (ρf a) s' → (∀ a' s'', Inv a' → m a' < m a → Fm Γ X env s₀ pins (πf a') (ρf a') s'' → Q' .next s'') → (∀ s'', Fin s'' → Q' .brk s'') → Go Γ A body env Q' E' s')
    (k : ∀ s', Fin s' → Go Γ A rest env Q E s') : Go Γ A (.While test body [] pos :: rest) env Q E s := by
  refine Go.cons (wpAny_While ?_)
  refine codeAny_whileLoop (fun k s => ∃ a, Inv a ∧ k = m a ∧ Fm Γ X env s₀ pins (πf a) (ρf a) s) ?_ (m a₀) ⟨a₀, h₀, rfl, F⟩
  intro kk s hJ
  refine via fun G ret => ?_
  obtain ⟨a, hI, rfl, F⟩ := hJ
  refine ret (ht _ A X s _ _ R F.view fun s₁ x₁ => ?_)
  clear ret
  rw [if_pos rfl]
  exact Go.run (hbody a hI s₁ _ _ (F.go x₁) (fun a' s₂ hI' hm F₂ => ⟨m a', hm, a', hI', rfl, F₂⟩) fun s₂ h => k s₂ h)
theorem x_break {pos : Pos} (h : Q .brk s) : Go Γ A (.Break pos :: rest) env Q E s := Go.cons (by
  show wpAny Γ.M A (standAt pos >>= fun _ => (pure Flow.brk : Sem Flow)) _ E s
  exact wpAny_bind (wpAny_standAt (wpAny_pure h)))
end Mine

namespace Mine
variable {Γ : Cfg} {n : Nat} {env : Env} {ρ : List (Str × D)} {X : List Addr} {s₀ s : Shared} {pins : List (Addr × Obj)} {π : Pv} {A : Around} {Q : Flow → Shared → Prop} {E : Value → Shared → Prop} {rest : List Stmt}

/-! ## the difference of rising lists -/
noncomputable def mdiffI (x : List Nat) (xs : List (List Nat)) (k : List (List Nat) → List (List Nat) × List (List Nat)) : List (List Nat) → List (List Nat) × List (List Nat)
  | [] => (x :: xs, [])
  | y :: ys =>
    if x < y then (x :: (k (y :: ys)).1, (k (y :: ys)).2)
    else if y < x then ((mdiffI x xs k ys).1, y :: (mdiffI x xs k ys).2)
    else k ys
noncomputable def mdiff : List (List Nat) → List (List Nat) → List (List Nat) × List (List Nat)
  | [] => fun ys => ([], ys)
  | x :: xs => mdiffI x xs (mdiff xs)
theorem mdiff_nil (ys) : mdiff [] ys = ([], ys) := rfl
theorem mdiff_nil2 : ∀ xs, mdiff xs [] = (xs, [])
  | [] => rfl
  | _ :: _ => rfl
theorem mdiff_cons (x xs y ys) : mdiff (x :: xs) (y :: ys) = if x < y then (x :: (mdiff xs (y :: ys)).1, (mdiff xs (y :: ys)).2) else if y < x then ((mdiff (x :: xs) ys).1, y :: (mdiff (x :: xs) ys).2) else mdiff xs ys := rfl
noncomputable def Adj (xs : List (List Nat)) : Prop := ∀ i a b, xs[i]? = some a → xs[i + 1]? = some b → b ≠ a

structure SI (xs ys : List (List Nat)) (t : Nat × Nat × List (List Nat) × List (List Nat)) : Prop where
  i : t.1 ≤ xs.length
  j : t.2.1 ≤ ys.length
  m : t.2.2.1.length ≤ t.1
  u : t.2.2.2.length ≤ t.2.1
  e : (t.2.2.1 ++ (mdiff (xs.drop t.1) (ys.drop t.2.1)).1, t.2.2.2 ++ (mdiff (xs.drop t.1) (ys.drop t.2.1)).2) = mdiff xs ys
theorem SI.last {xs ys i j m u} (h : SI xs ys (i, j, m, u)) (hl : xs.length ≤ i ∨ ys.length ≤ j) : (m ++ xs.drop i, u ++ ys.drop j) = mdiff xs ys := by
  have e := h.e
  dsimp only at e
  rw [← e]
  rcases hl with hl | hl
  · rw [List.drop_eq_nil_of_le hl, mdiff_nil]
  · rw [List.drop_eq_nil_of_le hl, mdiff_nil2]
theorem SI.split {xs ys : List (List Nat)} {i j m u} (h : SI xs ys (i, j, m, u)) (hi : i < xs.length) (hj : j < ys.length) :
    (xs[i] < ys[j] → SI xs ys (i + 1, j, m ++ [xs[i]], u)) ∧ (¬ xs[i] < ys[j] → ys[j] < xs[i] → SI xs ys (i, j + 1, m, u ++ [ys[j]])) ∧ (¬ xs[i] < ys[j] → ¬ ys[j] < xs[i] → SI xs ys (i + 1, j + 1, m, u)) := by
  obtain ⟨h1, h2, h3, h4, e⟩ := h
  dsimp only at h1 h2 h3 h4 e
  rw [List.drop_eq_getElem_cons hi, List.drop_eq_getElem_cons hj, mdiff_cons] at e
  refine ⟨fun c => ⟨by dsimp only; omega, h2, by simp; omega, h4, ?_⟩, fun c c' => ⟨h1, by dsimp only; omega, h3, by simp; omega, ?_⟩, fun c c' => ⟨by dsimp only; omega, by dsimp only; omega, by dsimp only; omega, by dsimp only; omega, ?_⟩⟩
  · rw [if_pos c] at e
    dsimp only
    rw [List.drop_eq_getElem_cons hj, List.append_assoc]
    exact e
  · rw [if_neg c, if_pos c'] at e
    dsimp only
    rw [List.drop_eq_getElem_cons hi, List.append_assoc]
    exact e
  · rw [if_neg c, if_neg c'] at e
    exact e

noncomputable def soTry : Stmt := match bodyOf (stAt 9) with
  | _ :: _ :: _ :: .While _ (t :: _) _ _ :: _ => t
  | _ => .Pass default
noncomputable def soSuite : List Stmt := match soTry with
  | .Try _ (.ExceptHandler _ _ b _ :: _) _ _ _ => b
  | _ => []
noncomputable abbrev lk (ρ : List (Str × D)) (x : Str) (d : D) : Prop := ρ.lookup x = some d
noncomputable abbrev theEnv {Γ X env s₀ pins π ρ s} (_ : Fm Γ X env s₀ pins π ρ s) : Env := env
theorem meas1 {a b i j : Nat} (h : i < a) : (a - (i + 1)) + (b - j) < (a - i) + (b - j) := by omega
theorem meas2 {a b i j : Nat} (h : j < b) : (a - i) + (b - (j + 1)) < (a - i) + (b - j) := by omega
theorem meas3 {a b i j : Nat} (h : i < a) : (a - (i + 1)) + (b - (j + 1)) < (a - i) + (b - j) := by omega
theorem fn_sorted (L : Law Γ) {xs ys : List (List Nat)} (hx : xs.length ≤ 200) (hy : ys.length ≤ 200) (ax : Adj xs) (ay : Adj ys) :
    FnF Γ 12 56 [.list (sD xs), .list (sD ys)] (.tup [.list (sD (mdiff xs ys).1), .list (sD (mdiff xs ys).2)]) := by
  refine fn_introF ["expected", "actual"] L.toOk L.d9 (fun A X s₀ env s E Q pm c doc outer hfr hfun he R F k => ?_) (hps := fun pm c doc vals hv => by obtain ⟨a, b, rfl⟩ := zip2 hv; rfl)
  have fr : ∀ {pins π ρ s'}, Fm Γ X env s₀ pins π ρ s' → FunFr Γ s'.heap (env :: outer) := fun F => Fm.frames L.toOk F hfun (by subst he; rfl) (by subst he; rfl)
  subst he
  refine x_two (ev_int (i := 0)) R F fun s F => ?_
  refine x_new (ds := sD []) .nil sD_sc R F fun M s F => ?_
  refine x_new (ds := sD []) .nil sD_sc R F fun U s F => ?_
  refine x_whileB (α := Nat × Nat × List (List Nat) × List (List Nat)) (fun t => (xs.length - t.1) + (ys.length - t.2.1)) (fun t => [("expected", .list (sD xs)), ("actual", .list (sD ys)), ("i", .int (t.1 : Nat)), ("j", .int (t.2.1 : Nat))])
    (fun t => [("unexpected", U, sD t.2.2.2), ("missing", M, sD t.2.2.1)]) (SI xs ys) (fun s' => ∃ ρ', Fm Γ X (theEnv F) s₀ [] [("unexpected", U, sD (mdiff xs ys).2), ("missing", M, sD (mdiff xs ys).1)] ρ' s') (0, 0, [], []) R
    (F.weak (weak_cons rfl (weak_cons rfl (weak_cons rfl (weak_cons rfl weak_nil))))) ⟨Nat.zero_le _, Nat.zero_le _, Nat.le_refl _, Nat.le_refl _, by simp⟩ (fun ρ => tr_val ev_bool tr_bool) ?_ fun s' ⟨ρ', F⟩ => ?_
  · rintro ⟨i, j, m, u⟩ hI s' Q' E' F kn kb
    have hi := hI.i
    have hj := hI.j
    have hm := hI.m
    have hu := hI.u
    dsimp only at hi hj hm hu F kn
    have xi : i ≤ 1000 := Nat.le_trans hi (Nat.le_trans hx (by decide))
    have xj : j ≤ 1000 := Nat.le_trans hj (Nat.le_trans hy (by decide))
    have xm : (sD m).length ≤ 1000 := by rw [sD_len]; exact Nat.le_trans hm xi
    have xu : (sD u).length ≤ 1000 := by rw [sD_len]; exact Nat.le_trans hu xj
    have xi1 : i < xs.length → i + 1 ≤ 1000 := fun h => Nat.le_trans h (Nat.le_trans hx (by decide))
    have xj1 : j < ys.length → j + 1 ≤ 1000 := fun h => Nat.le_trans h (Nat.le_trans hy (by decide))
    have hA : ∀ {s''}, HOk A s'' := fun {s''} => .inl (R.hand (by decide))
    have H : ∀ (pins' : List (Addr × Obj)) (ρ' : List (Str × D)) (i j : Nat) (m u : List (List Nat)) (e : Addr) (s'' : Shared) (E'' : Value → Shared → Prop), SI xs ys (i, j, m, u) → (xs.length ≤ i ∨ ys.length ≤ j) →
        lk ρ' "expected" (.list (sD xs)) → lk ρ' "actual" (.list (sD ys)) → lk ρ' "i" (.int (i : Nat)) → lk ρ' "j" (.int (j : Nat)) →
        Fm Γ X (theEnv F) s₀ pins' [("unexpected", U, sD u), ("missing", M, sD m)] ρ' s'' → wpAny Γ.M (A.mark (some (.ref e))) (execs soSuite (theEnv F)) (thn Γ A (theEnv F) [] Q' E') E'' s'' := by
      intro pins' ρ' i j m u e s'' E'' hI hl l1 l2 l3 l4 F'
      have hi := hI.i
      have hj := hI.j
      have hm := hI.m
      have hu := hI.u
      dsimp only at hi hj hm hu
      have hlast := hI.last hl
      refine Go.run ?_
      refine x_extend (n := 2) (z := "missing") (π₁ := [("unexpected", U, sD u)]) (π₂ := []) F' (ev_name l1) (ev_name l3) (R.mark (by decide) (by decide)) (by omega) (by omega) fun s₃ F₃ => ?_
      refine x_extend (n := 2) (z := "unexpected") (π₁ := []) F₃ (ev_name l2) (ev_name l4) (R.mark (by decide) (by decide)) (by omega) (by omega) fun s₄ F₄ => ?_
      refine x_break (kb s₄ ⟨ρ', ?_⟩)
      rw [← hlast]
      exact F₄.noPins
    refine Go.cons (wpAny_Try_except ?_)
    by_cases hil : i < xs.length
    · refine Go.run (x_assign (ev_item (k := ((i : Nat) : Int)) (ev_name rfl) (ev_name rfl) (nn i) (lt62 xi) (sD_get (List.getElem?_eq_getElem hil))) R F fun s₁ F₁ => ?_)
      by_cases hjl : j < ys.length
      · refine x_assign (ev_item (k := ((j : Nat) : Int)) (ev_name rfl) (ev_name rfl) (nn j) (lt62 xj) (sD_get (List.getElem?_eq_getElem hjl))) R F₁ fun s₂ F₂ => ?_
        obtain ⟨c1, c2, c3⟩ := hI.split hil hjl
        refine x_if (tr_cmp (ev_name rfl) (ev_name rfl) op_lts) R F₂ (fun hb s₃ F₃ => ?_) (fun hb s₃ F₃ => ?_)
        · have hlt : xs[i] < ys[j] := by simpa using hb
          have hI' := c1 hlt
          refine x_append (π₁ := [("unexpected", U, sD u)]) (π₂ := []) F₃ (ev_name rfl) trivial sD_sc R (fun s₄ F₄ => ?_) rfl xm
          have e2 : sD m ++ [.str xs[i]] = sD (m ++ [xs[i]]) := by simp [sD]
          rw [e2] at F₄
          refine x_aug rfl ev_int R F₄ fun s₅ F₅ => ?_
          refine Go.cons (w_inner (k := i + 1) L (ev_name rfl) (ev_name rfl) (ev_name rfl) (xi1 hil) R hfr rfl (fr F₅) F₅ (fun _ _ => hA) (fun y hy => ax i _ y (List.getElem?_eq_getElem hil) hy) (fun s₆ _ F₆ => ?_) fun s₆ e T oe oT hl Y _ => ?_)
          · refine Go.nil (Go.nil (wpAny_execs_nil (Go.nil (kn (i + 1, j, m ++ [xs[i]], u) s₆ hI' ?_ (F₆.weak (weak_cons rfl (weak_cons rfl (weak_cons rfl (weak_cons rfl weak_nil)))))))))
            exact meas1 hil
          · exact ep_fly L rfl Y rfl fun s₇ E₇ F₇ => H _ _ (i + 1) j (m ++ [xs[i]]) u _ _ _ hI' (.inl hl) rfl rfl rfl rfl F₇
        · have hnl : ¬ xs[i] < ys[j] := by simpa using hb
          refine x_if (tr_cmp (ev_name rfl) (ev_name rfl) op_gts) R F₃ (fun hb s₄ F₄ => ?_) (fun hb s₄ F₄ => ?_)
          · have hgt : ys[j] < xs[i] := by simpa using hb
            have hI' := c2 hnl hgt
            refine x_append (π₁ := []) F₄ (ev_name rfl) trivial sD_sc R (fun s₅ F₅ => ?_) rfl xu
            have e2 : sD u ++ [.str ys[j]] = sD (u ++ [ys[j]]) := by simp [sD]
            rw [e2] at F₅
            refine x_aug rfl ev_int R F₅ fun s₆ F₆ => ?_
            refine Go.cons (w_inner (k := j + 1) L (ev_name rfl) (ev_name rfl) (ev_name rfl) (xj1 hjl) R hfr rfl (fr F₆) F₆ (fun _ _ => hA) (fun y hy => ay j _ y (List.getElem?_eq_getElem hjl) hy) (fun s₇ _ F₇ => ?_) fun s₇ e T oe oT hl Y _ => ?_)
            · refine Go.nil (Go.nil (Go.nil (wpAny_execs_nil (Go.nil (kn (i, j + 1, m, u ++ [ys[j]]) s₇ hI' ?_ (F₇.weak (weak_cons rfl (weak_cons rfl (weak_cons rfl (weak_cons rfl weak_nil))))))))))
              exact meas2 hjl
            · exact ep_fly L rfl Y rfl fun s₈ E₈ F₈ => H _ _ i (j + 1) m (u ++ [ys[j]]) _ _ _ hI' (.inr hl) rfl rfl rfl rfl F₈
          · have hng : ¬ ys[j] < xs[i] := by simpa using hb
            have hI' := c3 hnl hng
            refine x_aug rfl ev_int R F₄ fun s₅ F₅ => ?_
            have fin : ∀ s'', Fm Γ X (theEnv F) s₀ [] [("unexpected", U, sD u), ("missing", M, sD m)] [("expected", .list (sD xs)), ("actual", .list (sD ys)), ("i", .int ((i + 1 : Nat) : Int)), ("j", .int ((j + 1 : Nat) : Int))] s'' →
                Q' .next s'' := fun s'' F'' => kn (i + 1, j + 1, m, u) s'' hI' (meas3 hil) F''
            refine Go.cons (wpAny_Try_finally (wpAny_execs_cons (w_inner (k := i + 1) L (ev_name rfl) (ev_name rfl) (ev_name rfl) (xi1 hil) R hfr rfl (fr F₅) F₅ (fun _ _ => hA) (fun y hy => ax i _ y (List.getElem?_eq_getElem hil) hy) (fun s₆ _ F₆ => ?_) fun s₆ e T oe oT hl Y hctx => ?_)))
            · refine wpAny_execs_nil (wpAny_execs_nil (Go.run (x_aug rfl ev_int R F₆ fun s₇ F₇ => Go.cons (w_inner (k := j + 1) L (ev_name rfl) (ev_name rfl) (ev_name rfl) (xj1 hjl) R hfr rfl (fr F₇) F₇ (fun _ _ => hA) (fun y hy => ay j _ y (List.getElem?_eq_getElem hjl) hy) (fun s₈ _ F₈ => ?_) fun s₈ e T oe oT hl Y _ => ?_))))
              · exact Go.nil (Go.nil (Go.nil (Go.nil (wpAny_execs_nil (Go.nil (fin s₈ (F₈.weak (weak_cons rfl (weak_cons rfl (weak_cons rfl (weak_cons rfl weak_nil)))))))))))
              · exact Y.note rfl (Y.back rfl fun s₉ oT' Y' => ep_fly L rfl Y' rfl fun s₁ E₁ F₁ => H _ _ (i + 1) (j + 1) m u _ _ _ hI' (.inr hl) rfl rfl rfl rfl F₁)
            · refine Y.note rfl ⟨ref_ne_byPass e, Y.note rfl (Y.flight fun s₇ oT₇ Y₇ => Go.run (x_aug (n := 2) rfl ev_int (R.mark (by decide) (by decide)) Y₇.fm fun s₈ F₈ => Go.cons (w_inner (n := 2) (k := j + 1) L (ev_name rfl) (ev_name rfl) (ev_name rfl) (xj1 hjl) (R.mark (by decide) (by decide)) hfr rfl (fr F₈) F₈ (fun s₉ x₉ => ?_) (fun y hy => ay j _ y (List.getElem?_eq_getElem hjl) hy) (fun s₉ _ F₉ => ?_) fun s₉ e₂ T₂ oe₂ oT₂ hl₂ Y₂ _ => ?_)))⟩
              · obtain ⟨vs, hv1, hv2⟩ := hctx (R.hand (by decide))
                exact .inr ⟨e, oe, vs, rfl, ((F₈.go x₉).pin (e, oe) (by simp)).1, hv1, hv2⟩
              · refine Go.nil (Fly.pass ⟨F₉, Y₇.exc, Y₇.fr, Y₇.ne⟩ rfl fun s₁ oT₁ Y₁ => ep_fly L rfl Y₁ rfl fun s₂ E₂ F₂ => H _ _ (i + 1) (j + 1) m u _ _ _ hI' (.inl hl) rfl rfl rfl rfl F₂)
              · exact Y₂.note rfl (Y₂.back rfl fun s₁ oT₁ Y₁ => ep_fly L rfl Y₁ rfl fun s₂ E₂ F₂ => H _ _ (i + 1) (j + 1) m u _ _ _ hI' (.inl hl) rfl rfl rfl rfl F₂)
      · refine Go.cons (wpAny_Assign_Name (item_out (n := 11) (l := sD ys) (k := j) (ev_name rfl) (ev_name rfl) (by rw [sD_len]; exact Nat.le_of_not_lt hjl) xj (fun _ _ => hA) R F₁.st fun s₂ h' tk e x hx hc => ?_))
        exact ep_new L hfr rfl (fr (F₁.go x)) (F₁.go x) hx rfl fun s₃ E₃ F₃ => H _ _ i j m u _ _ _ hI (.inr (Nat.le_of_not_lt hjl)) rfl rfl rfl rfl F₃
    · refine Go.run (Go.cons (wpAny_Assign_Name (item_out (n := 11) (l := sD xs) (k := i) (ev_name rfl) (ev_name rfl) (by rw [sD_len]; exact Nat.le_of_not_lt hil) xi (fun _ _ => hA) R F.st fun s₂ h' tk e x hx hc => ?_)))
      exact ep_new L hfr rfl (fr (F.go x)) (F.go x) hx rfl fun s₃ E₃ F₃ => H _ _ i j m u _ _ _ hI (.inl (Nat.le_of_not_lt hil)) rfl rfl rfl rfl F₃
  · exact x_ret (ev_tup (.cons (ev_name rfl) rfl (.cons (ev_name rfl) rfl .nil))) R F k
end Mine

namespace Mine
variable {Γ : Cfg} {n : Nat} {env : Env} {ρ : List (Str × D)} {X : List Addr} {s₀ s : Shared} {pins : List (Addr × Obj)} {π : Pv} {A : Around} {Q : Flow → Shared → Prop} {E : Value → Shared → Prop} {rest : List Stmt}

/-! ## lambdas -/
structure Law2 (Γ : Cfg) : Prop extends Law Γ where
  h1 : CodeHd Γ.h 88 86
  h2 : CodeHd Γ.h 105 103
  bm : ∃ bm o, Γ.mg "__builtins__" = some (.ref bm) ∧ bm ≠ builtinsNs ∧ bm ≠ mainGlobals ∧ bm ≠ 86 ∧ bm ≠ 103 ∧ Γ.h.get? bm = some o ∧ o.cls = .type "module" ∧ o.dict = some builtinsNs ∧ o.data = .plain

noncomputable def LamAt (h : Heap) (f : Addr) (cl : List (Str × Addr)) (qual : Str) (params : Arguments) (body : Expr) (scope : Scope) : Prop :=
  ∃ pm c ctv, h.get? f = some (kla_obj "<lambda>" qual params body scope cl pm c ctv) ∧ h.CodeRec (.ref c) qual ∧ c ≠ 86 ∧ c ≠ 103

theorem codeHd_at {h h' : Heap} {c P : Addr} (x : CodeHd h c P) (k : ∀ o, h.get? c = some o → h'.get? c = some o) : CodeHd h' c P := by
  obtain ⟨o, vs, file, tf, flags, tg, inF, text, tt, e, r⟩ := x
  exact ⟨o, vs, file, tf, flags, tg, inF, text, tt, k o e, r⟩

theorem lam_make (L : Law2 Γ) {params : Arguments} {body : Expr} {scope : Scope} {pos : Pos} {c P ln cn : Nat} {qual : Str} {Q : Value → Shared → Prop} {E : Value → Shared → Prop} {M : Model}
    (hP : (P = 86 ∧ c = 88 ∧ ln = 110 ∧ cn = 73 ∧ qual = "_law_walk.<locals>.<lambda>") ∨ (P = 103 ∧ c = 105 ∧ ln = 140 ∧ cn = 33 ∧ qual = "law.<locals>.<lambda>"))
    (hcode : env.code = .ref c) (hq : env.qual ++ "<lambda>" = qual) (hln : pos.line = ln) (hcn : pos.col = cn) (hdef : defaultsOf params env = ([], [])) (S : St Γ X env ρ s) (hf : freeOk env ρ scope = true)
    (k : ∀ f cl s', Step Γ [] s s' → s.heap.get? f = none → LamAt s'.heap f cl qual params body scope → (∀ y c, cl.lookup y = some c → env.cells.lookup y = some c) → (∀ y, scope.names.lookup y = some .free → (cl.lookup y).isSome = true) → Q (.ref f) s') :
    wpAny M A (eval (.Lambda params body scope pos) env) Q E s := by
  obtain ⟨cl, hcl, hc1, hc2⟩ := closureFor_ok S hf
  have B := S.base
  have hg : s.heap.Ns mainGlobals Γ.mg := B.ns L.g (by decide) (by decide)
  obtain ⟨bm, ob, b1, b2, b3, b4, b5, b6, b7, b8, b9⟩ := L.bm
  have bmain : s.heap.BuiltinsAt Γ.mg P := ⟨bm, ob, b1, b2, b3, by rcases hP with ⟨rfl, _⟩ | ⟨rfl, _⟩ <;> assumption, B.old _ _ b6 b4 b5, b7, b8, b9⟩
  have Cs : CodeHd s.heap c P := by
    have : ∀ {c P}, CodeHd Γ.h c P → c ≠ 86 → c ≠ 103 → CodeHd s.heap c P := fun x h1 h2 => codeHd_at x fun o e => B.old _ _ e h1 h2
    rcases hP with ⟨rfl, rfl, _⟩ | ⟨rfl, rfl, _⟩
    · exact this L.h1 (by decide) (by decide)
    · exact this L.h2 (by decide) (by decide)
  have T : TabAt P ln cn qual s.heap := by
    rcases hP with ⟨rfl, rfl, rfl, rfl, rfl⟩ | ⟨rfl, rfl, rfl, rfl, rfl⟩
    · exact B.t1
    · exact B.t2
  obtain ⟨vs, hv, hvs⟩ := T
  refine kla_eval hdef ?_
  rw [hq]
  rcases hvs with rfl | ⟨c', rfl, hrec⟩
  · refine kla_makeFunction (mg := Γ.mg) (ps := #[]) hcl S.glob.1 hg hcode Cs hv (by first | trivial | simp [TriplesOk]) rfl (by rcases hP with ⟨rfl, _⟩ | ⟨rfl, _⟩ <;> decide) bmain fun c' ctv h' tk hx hge hlt hrec htb => ?_
    have up : ∀ {o : Obj} b o', h'.get? b = some o' → (h'.push o).get? b = some o' := fun b o' e => Heap.get?_push_of_some _ e
    have c'new : s.heap.get? c' = none := Heap.get?_none_of_le hge
    obtain ⟨_, n86, n103⟩ := fresh_ne B c'new
    have fnew : s.heap.get? h'.objs.size = none := Heap.get?_none_of_le (Nat.le_trans hge (Nat.le_of_lt hlt))
    have tabP : ∀ {o : Obj}, TabAt P ln cn qual (h'.push o) := fun {o} => ⟨_, up _ _ htb, .inr ⟨c', by rw [← hln, ← hcn]; rfl, hrec.keeps up⟩⟩
    have tabO : ∀ {o : Obj} {P' l' n' q'}, P' ≠ P → TabAt P' l' n' q' s.heap → TabAt P' l' n' q' (h'.push o) := fun {o P' l' n' q'} hne ⟨vs, e, hv⟩ => by
      refine ⟨vs, up _ _ (hx _ _ hne e), hv.imp id ?_⟩
      rintro ⟨c2, e2, c3, o3, us, t, e4, g, r, r2⟩
      refine ⟨c2, e2, c3, o3, us, t, e4, up _ _ (hx _ _ ?_ g), r, r2⟩
      rintro rfl
      rw [hv] at g
      cases g; cases r; simp at r2
    have hbP : ∀ {b : Addr}, b ≠ 86 → b ≠ 103 → b ≠ P := fun {b} h1 h2 => by rcases hP with ⟨rfl, _⟩ | ⟨rfl, _⟩ <;> assumption
    refine k h'.objs.size cl _ ⟨fun b o e hd h1 h2 => up _ _ (hx _ _ (hbP h1 h2) e), fun b o e h1 h2 => ⟨o.slots, up _ _ (hx _ _ (hbP h1 h2) e)⟩, fun {Z} BZ => ⟨fun b o e h1 h2 => up _ _ (hx _ _ (hbP h1 h2) (BZ.old b o e h1 h2)), ?_, ?_, fun a ha => ?_⟩, ⟨#[], by simp, AllBare.empty⟩, rfl, rfl⟩ fnew
      ⟨_, c', ctv, Heap.get?_push_size _ rfl, hrec.keeps up, n86, n103⟩ hc1 hc2
    · rcases hP with ⟨rfl, rfl, rfl, rfl, rfl⟩ | ⟨rfl, rfl, rfl, rfl, rfl⟩
      · exact tabP
      · exact tabO (by decide) BZ.t1
    · rcases hP with ⟨rfl, rfl, rfl, rfl, rfl⟩ | ⟨rfl, rfl, rfl, rfl, rfl⟩
      · exact tabO (by decide) BZ.t2
      · exact tabP
    · obtain ⟨o, e, hd⟩ := BZ.priv a ha
      refine ⟨o, up _ _ (hx _ _ ?_ e), hd⟩
      rintro rfl
      rw [hv] at e; cases e; exact hd _ rfl
  · have hrec86 : c' ≠ 86 ∧ c' ≠ 103 := by
      obtain ⟨c3, o3, us, t, e4, g, r, r2⟩ := hrec
      cases e4
      refine ⟨?_, ?_⟩
      · rintro rfl
        obtain ⟨vs, e, hv'⟩ := B.t1
        rw [g] at e; cases e; cases r
        rcases hv' with rfl | ⟨c2, rfl, _⟩ <;> simp [rawInt] at r2
      · rintro rfl
        obtain ⟨vs, e, hv'⟩ := B.t2
        rw [g] at e; cases e; cases r
        rcases hv' with rfl | ⟨c2, rfl, _⟩ <;> simp [rawInt] at r2
    refine kla_makeFunctionHit (mg := Γ.mg) (ps := #[rawInt ln, rawInt cn, .ref c']) (cv := .ref c') hcl S.glob.1 hg hcode Cs hv (by simp [TriplesOk, rawInt]) (by rw [← hln, ← hcn]; exact codeAmong_snoc [] trivial rfl) bmain fun ctv h' tk hk hge => ?_
    have up : ∀ {o : Obj} b o', s.heap.get? b = some o' → (h'.push o).get? b = some o' := fun b o' e => Heap.get?_push_of_some _ (hk _ _ e)
    exact k h'.objs.size cl _ (Step.of_keeps up) (Heap.get?_none_of_le hge) ⟨_, c', ctv, Heap.get?_push_size _ rfl, hrec.keeps up, hrec86.1, hrec86.2⟩ hc1 hc2
end Mine

namespace Mine
variable {Γ : Cfg} {n : Nat} {env : Env} {ρ : List (Str × D)} {X : List Addr} {s₀ s : Shared} {pins : List (Addr × Obj)} {π : Pv} {A : Around} {Q : Flow → Shared → Prop} {E : Value → Shared → Prop} {rest : List Stmt}

/-! ## sorting by a key -/
set_option maxHeartbeats 1000000 in
theorem ksk_own {κ : PyProof.Rows.KeyKind} (hO : κ.OneLt) {σ s : Shared} {a : Addr} {n₀ : Nat} {vs : List Value} {f : Value} {KeyAt : Nat → Value → Prop} {P : PySem.Fin → Shared → Prop} {E : Value → Shared → Prop} (B : Base Γ X σ.heap) (x : Step Γ [] σ s) (ha : σ.heap.get? a = none)
    (ho : s.heap.get? a = some (seqObj "list" vs.toArray n₀)) (h64 : vs.length < 64)
    (hkey : ∀ i k, KeyAt i k → ∃ q, κ.keyOf k = some q)
    (hkind : ∀ keys : Array Value, keys.size = vs.length → (∀ (i : Nat) k, keys[i]? = some k → KeyAt i k) → 2 ≤ keys.size → keyKind' keys = pure oneType')
    (turn : ∀ (i : Nat) v s', vs[i]? = some v → Step Γ [] σ s' → wpAny Γ.M A (call f [v]) (fun key s'' => KeyAt i key ∧ Step Γ [] s' s'') (fun _ _ => False) s')
    (h : ∀ s' out c (keys : Array Value) (xs : Array Keyed), Step Γ [] σ s' → s'.heap.get? a = some (seqObj "list" out c) → keys.size = vs.length → (∀ (i : Nat) k, keys[i]? = some k → KeyAt i k) → xs.Perm (keys.zip vs.toArray) → SortedToK κ xs xs.size → out = xs.map (·.2) →
      P (.done (.ret .none)) s') :
    wpAny Γ.M A (ksk_tree a f false) P E s := by
  have hgone : ∀ {b : Addr} {s' : Shared} {g : Obj → Obj} {xs : Array Value} {c : Nat}, Step Γ [] σ s' → σ.heap.get? b = none → s'.heap.get? b = some (seqObj "list" xs c) → Step Γ [] σ { s' with heap := s'.heap.update b g } := fun {b s' g xs c} x' hb e =>
    x'.upd B hb ⟨_, s'.toks, rfl, fun b' o hb' e' => (Heap.get?_update_other _ _ (Ne.symm hb')).trans e'⟩ fun o e' => by rw [e] at e'; cases e'; exact notCode_seq rfl
  obtain ⟨_, a86, a103⟩ := fresh_ne B ha
  obtain ⟨e1, ho1⟩ : ∃ e1, (s.heap.update a (Obj.mapSeq fun _ => (#[] : Array Value))).get? a = some (seqObj "list" #[] e1) := ⟨_, get?_update_seq ho fun _ => #[]⟩
  have x1 : Step Γ [] σ { s with heap := s.heap.update a (Obj.mapSeq fun _ => (#[] : Array Value)) } := hgone x ha ho
  unfold ksk_tree
  refine wpAny_bind (listItems_at ho rfl ?_)
  refine wpAny_bind (listUpdate_at ho rfl ?_ (by rw [List.size_toArray, sizeLine_eq]; omega) (Nat.zero_le _))
  refine wpAny_bind (seqEpoch_at ho1 rfl ?_)
  refine wpAny_bind (wpAny_newTuple ?_ (by show vs.length ≤ _; rw [sizeLine_eq]; omega))
  refine wpAny_bind (wpAny_newList ?_ (Nat.zero_le _))
  refine wpAny_holding ?_
  generalize hH1 : s.heap.update a (Obj.mapSeq fun _ => (#[] : Array Value)) = H1 at *
  generalize hH2 : H1.push { cls := .type "tuple", data := .seq vs.toArray } = H2 at *
  have hkSn : H2.get? H2.objs.size = none := Heap.get?_none_of_le (Nat.le_refl _)
  have x2 : Step Γ [] σ { s with heap := H2, toks := s.toks } := x1.trans (Step.of_keeps fun b o e => hH2 ▸ Heap.get?_push_of_some _ e)
  have hkS : σ.heap.get? H2.objs.size = none := fresh_back x2 B hkSn
  obtain ⟨_, k86, k103⟩ := fresh_ne B hkS
  have hka : H2.objs.size ≠ a := fun e => by
    have : H2.get? a = some (seqObj "list" #[] e1) := hH2 ▸ Heap.get?_push_of_some _ ho1
    rw [← e, hkSn] at this; cases this
  have x3 : Step Γ [] σ { s with heap := H2.push (seqObj "list" #[] 0), toks := s.toks } := x2.trans (Step.of_keeps fun b o e => Heap.get?_push_of_some _ e)
  have a3 : (H2.push (seqObj "list" #[] 0)).get? a = some (seqObj "list" #[] e1) := Heap.get?_push_of_some _ (hH2 ▸ Heap.get?_push_of_some _ ho1)
  have k3 : (H2.push (seqObj "list" #[] 0)).get? H2.objs.size = some (seqObj "list" #[] 0) := Heap.get?_push_size _ rfl
  have nd : ∀ {xs : Array Value} {c : Nat}, NoDict (seqObj "list" xs c) := fun es n h => by cases h
  have tail : ∀ s' (keys : Array Value) (e : Nat) (st : SortSt), Step Γ [] σ s' → s'.heap.get? H2.objs.size = some (seqObj "list" keys e) → s'.heap.get? a = some (seqObj "list" #[] e1) → keys.size = vs.length → (∀ (i : Nat) k, keys[i]? = some k → KeyAt i k) →
      (arrOf st).Perm (keys.zip vs.toArray) → SortedToK κ (arrOf st) (arrOf st).size → failedOf st = none → wpAny Γ.M A (ksk_tail a false e1 (.ref H2.objs.size) st) P E s' := by
    intro s' keys e st x' hk ha' hsz hK hp hs hf
    have hsz2 : (arrOf st).size = vs.length := by rw [hp.size_eq, Array.size_zip, hsz, List.size_toArray, Nat.min_self]
    have x4 := hgone (g := Obj.mapSeq fun _ => (#[] : Array Value)) x' hkS hk
    have a4 : (s'.heap.update H2.objs.size (Obj.mapSeq fun _ => (#[] : Array Value))).get? a = some (seqObj "list" #[] e1) := (Heap.get?_update_other _ _ hka).trans ha'
    obtain ⟨c2, hc2⟩ : ∃ c2, ((s'.heap.update H2.objs.size (Obj.mapSeq fun _ => (#[] : Array Value))).update a (Obj.mapSeq fun _ => (arrOf st).map (·.2))).get? a = some (seqObj "list" ((arrOf st).map (·.2)) c2) :=
      ⟨_, get?_update_seq a4 fun _ => (arrOf st).map (·.2)⟩
    have x5 := hgone (s' := { s' with heap := s'.heap.update H2.objs.size (Obj.mapSeq fun _ => (#[] : Array Value)) }) (g := Obj.mapSeq fun _ => (arrOf st).map (·.2)) x4 ha a4
    unfold ksk_tail
    try dsimp only
    simp only [Bool.false_eq_true, if_false]
    refine wpAny_bind (listUpdate_at hk rfl ?_ (by rw [hsz, sizeLine_eq]; omega) (Nat.zero_le _))
    refine wpAny_bind (wpAny_letGo ?_)
    refine wpAny_bind (seqEpoch_at a4 rfl ?_)
    refine wpAny_bind (listUpdate_at a4 rfl ?_ (Nat.zero_le _) (by rw [Array.size_map, hsz2, sizeLine_eq]; omega))
    rw [hf]
    simp only [bne_self_eq_false, Bool.false_eq_true, if_false]
    have fin := h _ _ c2 keys (arrOf st) x5 hc2 hsz hK hp hs rfl
    exact wpAny_pure fin
  unfold ksk_rest
  refine wpAny_bind (wpAny_rule ?_)
  first
    | rw [List.forIn_toArray]
    | (rw [← Array.forIn_toList]; simp only [List.toList_toArray])
    | rw [← Array.forIn_toList]
  refine wpAny_bind (ksk_fold (fun i s' => Step Γ [] σ s' ∧ (∃ kA e, s'.heap.get? H2.objs.size = some (seqObj "list" kA e) ∧ kA.size = i ∧ ∀ (j : Nat) k, kA[j]? = some k → KeyAt j k) ∧ s'.heap.get? a = some (seqObj "list" #[] e1)) vs 0 _
    ⟨x3, ⟨#[], 0, k3, rfl, fun j k hj => by simp at hj⟩, a3⟩ ?step ?done)
  case step =>
    rintro j y s' hy ⟨x', ⟨kA, e, hkA, hsz, hK⟩, ha'⟩
    simp only [Nat.zero_add] at hsz ⊢
    have hj : j < vs.length := (List.getElem?_eq_some_iff.mp hy).1
    refine wpAny_bind (wpAny_attempt (wpAny_mono (turn j y s' hy x') (fun v s'' hv => ?_) fun _ _ hF => hF.elim))
    obtain ⟨hv, xv⟩ := hv
    have hk'' := xv.keep _ _ hkA nd k86 k103
    have ha'' := xv.keep _ _ ha' nd a86 a103
    try dsimp only
    obtain ⟨c2, hc2⟩ : ∃ c2, (s''.heap.update H2.objs.size (Obj.mapSeq (·.push v))).get? H2.objs.size = some (seqObj "list" (kA.push v) c2) := ⟨_, get?_update_seq hk'' (·.push v)⟩
    refine wpAny_bind (listUpdate_at hk'' rfl ?_ (by rw [sizeLine_eq]; omega) (Nat.le_trans (Nat.le_of_eq (Array.size_push ..)) (by rw [sizeLine_eq]; omega)))
    refine wpAny_pure ⟨rfl, hgone (x'.trans xv) hkS hk'', ⟨_, c2, hc2, by rw [Array.size_push, hsz], fun i k hi => ?_⟩, (Heap.get?_update_other _ _ hka).trans ha''⟩
    rw [Array.getElem?_push] at hi
    split at hi
    · rename_i e'
      cases hi
      rw [e', hsz]; exact hv
    · exact hK i k hi
  case done =>
    rintro s' ⟨x', ⟨kA, e, hkA, hsz, hK⟩, ha'⟩
    simp only [Nat.zero_add] at hsz
    try dsimp only
    refine wpAny_bind (listItems_at hkA rfl ?_)
    have hzs : (kA.zip vs.toArray).size = vs.length := by rw [Array.size_zip, hsz, List.size_toArray, Nat.min_self]
    unfold ksk_end
    try dsimp only
    simp only [Bool.false_eq_true, if_false]
    by_cases h2 : vs.toArray.size < 2
    · rw [if_pos h2, if_pos h2]
      refine wpAny_bind (wpAny_pure ?_)
      rw [StateT.run_pure]
      refine wpAny_bind (wpAny_pure ?_)
      try dsimp only
      refine tail s' kA e (SortSt.mk' general' (kA.zip vs.toArray) #[] 7 none) x' hkA ha' hsz hK (Array.Perm.refl _) ?_ rfl
      intro i j hij hj
      have hj2 : j < (kA.zip vs.toArray).size := hj
      rw [hzs] at hj2
      rw [List.size_toArray] at h2
      have : i = j := by omega
      subst this
      exact KeyOrd.kle_refl _
    · rw [if_neg h2, if_neg h2]
      rw [List.size_toArray] at h2
      rw [hkind kA hsz hK (by omega)]
      refine wpAny_bind (wpAny_pure ?_)
      refine wpAny_bind (wpAny_mono (wpS_sortRunsK (κ := κ) hO (a₀ := kA.zip vs.toArray) (st := SortSt.mk' oneType' (kA.zip vs.toArray) #[] 7 none)
        (Q := fun _ st' => (arrOf st').Perm (kA.zip vs.toArray) ∧ failedOf st' = none ∧ SortedToK κ (arrOf st') (kA.zip vs.toArray).size)
        (fun p hp => ?_) ⟨Array.Perm.refl _, rfl, rfl, rfl⟩ (by rw [hzs]; omega) (by rw [hzs]; exact h64) fun st' a1 a2 a3 => ⟨a1, a2, a3⟩) ?_ fun _ _ e => e)
      · rw [ksk_zip] at hp
        obtain ⟨y, z⟩ := p
        have hm := (List.of_mem_zip hp).1
        obtain ⟨i, hi, e'⟩ := List.getElem_of_mem hm
        exact hkey i _ (hK i y (by rw [← e']; simpa using hi))
      · rintro ⟨⟨⟩, st'⟩ s'' ⟨rfl, hp, hf, hs⟩
        try dsimp only
        exact tail _ kA e st' x' hkA ha' hsz hK hp (by rw [hp.size_eq]; exact hs) hf
end Mine

namespace Mine
variable {Γ : Cfg} {n : Nat} {env : Env} {ρ : List (Str × D)} {X : List Addr} {s₀ s : Shared} {pins : List (Addr × Obj)} {π : Pv} {A : Around} {Q : Flow → Shared → Prop} {E : Value → Shared → Prop} {rest : List Stmt}

theorem sorted_own {κ : PyProof.Rows.KeyKind} (hO : κ.OneLt) {s : Shared} {l q : Addr} {vs : List Value} {KeyAt : Nat → Value → Prop} {Q : Value → Shared → Prop} {E : Value → Shared → Prop} (B : Base Γ X s.heap) (hl : s.heap.IsList l vs.toArray) (h64 : vs.length < 64)
    (hkey : ∀ i k, KeyAt i k → ∃ q, κ.keyOf k = some q)
    (hkind : ∀ keys : Array Value, keys.size = vs.length → (∀ (i : Nat) k, keys[i]? = some k → KeyAt i k) → 2 ≤ keys.size → keyKind' keys = pure oneType')
    (turn : ∀ (i : Nat) v s', vs[i]? = some v → Step Γ [] s s' → wpAny Γ.M A.in1.in1 (call (.ref q) [v]) (fun key s'' => KeyAt i key ∧ Step Γ [] s' s'') (fun _ _ => False) s')
    (h : ∀ D s' out c (keys : Array Value) (xs : Array Keyed), Step Γ [] s s' → s.heap.get? D = none → s'.heap.get? D = some (seqObj "list" out c) → keys.size = vs.length → (∀ (i : Nat) k, keys[i]? = some k → KeyAt i k) → xs.Perm (keys.zip vs.toArray) → SortedToK κ xs xs.size → out = xs.map (·.2) →
      Q (.ref D) s') :
    wpAny Γ.M A (call (.builtin "sorted") [.ref l] [(Str.ofString "key", .ref q)]) Q E s := by
  refine call_function_entry_kw kind_sorted plain_sorted entry_sorted (ksk_s1 _ _) ?_
  unfold Builtin.«sorted»
  refine wpAny_bind (m := checkCount "sorted" 1 1 _) (wpAny_pure ?_)
  refine wpAny_bind (collect_list hl ?_ (by rw [sizeLine_eq]; omega))
  refine wpAny_bind (wpAny_newList ?_ (by rw [sizeLine_eq]; omega))
  have hsz : ((s.heap.push (seqObj "list" #[] 0)).update s.heap.objs.size (Obj.mapSeq (· ++ vs.toArray))).objs.size = s.heap.objs.size + 1 := by
    rw [Heap.size_update, size_push']
  have hoL : (((s.heap.push (seqObj "list" #[] 0)).update s.heap.objs.size (Obj.mapSeq (· ++ vs.toArray))).push (seqObj "list" vs.toArray 0)).get? (s.heap.objs.size + 1) = some (seqObj "list" vs.toArray 0) := by
    rw [← hsz]; exact Heap.get?_push_size _ rfl
  have keep : ∀ b o, s.heap.get? b = some o → (((s.heap.push (seqObj "list" #[] 0)).update s.heap.objs.size (Obj.mapSeq (· ++ vs.toArray))).push (seqObj "list" vs.toArray 0)).get? b = some o := fun b o q => by
    have hlt : b < s.heap.objs.size := Heap.lt_size q
    rw [Heap.get?_push_ne _ _ _ (by rw [hsz]; exact Nat.ne_of_lt (Nat.lt_succ_of_lt hlt)), Heap.get?_update_ne _ _ _ _ (Nat.ne_of_lt hlt), Heap.get?_push_ne _ _ _ (Nat.ne_of_lt hlt)]
    exact q
  show wpAny _ _ _ _ _ { s with heap := ((s.heap.push (seqObj "list" #[] 0)).update s.heap.objs.size (Obj.mapSeq (· ++ vs.toArray))).push (seqObj "list" vs.toArray 0) }
  rw [hsz]
  refine wpAny_bind (wpAny_holding (wpAny_call_entry_kw slot_list_sort ⟨_, hoL, rfl⟩ entry_list_sort ?body (ksk_l1 _ _)))
  case body =>
    show wpAny Γ.M A.in1.in1 (Builtin.«list.sort» ⟨[.ref (s.heap.objs.size + 1)], [(Str.ofString "key", .ref q)]⟩) _ _ _
    rw [ksk_t1]
    have hnew : s.heap.get? (s.heap.objs.size + 1) = none := Heap.get?_none_of_le (Nat.le_succ _)
    refine ksk_own hO (σ := s) (s := { s with heap := ((s.heap.push (seqObj "list" #[] 0)).update s.heap.objs.size (Obj.mapSeq (· ++ vs.toArray))).push (seqObj "list" vs.toArray 0) }) B (Step.of_keeps (tk := s.toks) keep) hnew hoL h64 hkey hkind turn fun s' out c keys xs x1 x2 x3 x4 x5 x6 x7 => ⟨_, rfl, ?_⟩
    exact wpAny_pure ⟨_, rfl, h _ s' out c keys xs x1 hnew x2 x3 x4 x5 x6 x7⟩

theorem lam_call (L : Law2 Γ) {f : Addr} {cl : List (Str × Addr)} {qual : Str} {params : Arguments} {body : Expr} {scope : Scope} {x : Str} {v : Value} {d dk : D} {Q : Value → Shared → Prop} {E : Value → Shared → Prop} (Rm : Room0 (n + 1) A) (hL : LamAt s.heap f cl qual params body scope) (S : St Γ X env ρ s)
    (hc1 : ∀ y c, cl.lookup y = some c → env.cells.lookup y = some c) (hc2 : ∀ y, scope.names.lookup y = some .free → (cl.lookup y).isSome = true) (hf : freeOk env ρ scope = true)
    (hbind : ∀ pm c ctv, bindArgs (kla_fn "<lambda>" qual params body scope cl pm (.ref c) ctv) ⟨[v], []⟩ = pure [(x, v)]) (hx : scope.names.lookup x = some .local) (hnc : ∀ y ∈ scope.names, y.2 ≠ .cell) (hk : scope.kind = .function) (hco : scope.isCoroutine = false) (hgen : scope.isGenerator = false)
    (hv : Rep X s.heap d v) (hb : ∀ env', env'.scope = scope → env'.globals = mainGlobals → Ev Γ n env' ((x, d) :: cρ scope ρ) body dk)
    (k : ∀ u s', Rep X s'.heap dk u → Step Γ [] s s' → Q u s') : wpAny Γ.M A (call (.ref f) [v]) Q E s := by
  obtain ⟨pm, c, ctv, ho, hrec, c86, c103⟩ := hL
  have B := S.base
  refine wpAny_call (kla_callFunE (fd := kla_fn "<lambda>" qual params body scope cl pm (.ref c) ctv) Rm.depth ho rfl hco hgen rfl hrec ?_)
  refine wpAny_of_eq (hbind pm c ctv) (wpAny_newFunctionEnv hnc (fun y hy => ?_) (fun h' hn hs => ⟨?_, ?_⟩) hk)
  · have : y = (x, v) := by simpa using hy
    subst this; exact hx
  · exact (B.lim L.toOk).keeps fun b o e => hs.extBut b o (Nat.ne_of_lt (Heap.lt_size e)) (Heap.get?_push_of_some _ e)
  · have keep : ∀ b o, s.heap.get? b = some o → h'.get? b = some o := fun b o e => hs.extBut b o (Nat.ne_of_lt (Heap.lt_size e)) (Heap.get?_push_of_some _ e)
    have x₁ : Step Γ [] s { s with heap := h', toks := s.toks + 1 } := Step.of_keeps keep
    obtain ⟨m₀, hn₀, hv₀⟩ := S.vars
    have S' : St Γ X (newEnv scope s.heap.objs.size mainGlobals cl (qual ++ ".<locals>.") (some f) (.ref c) none builtinsNs) ((x, d) :: cρ scope ρ) { s with heap := h', toks := s.toks + 1 } := by
      refine ⟨x₁.base B, ⟨rfl, rfl, hk⟩, _, hn, fun y e hy => ?_⟩
      rw [List.lookup_cons] at hy
      split at hy
      · rename_i hxy
        cases hy
        have : y = x := by simpa using hxy
        subst this
        exact ⟨v, x₁.rep B hv, .inl ⟨hx, by simp⟩⟩
      · obtain ⟨h1, h2⟩ := cρ_look hy
        obtain ⟨u, hu, hh⟩ := hv₀ y e h1
        refine ⟨u, x₁.rep B hu, ?_⟩
        rcases hh with ⟨hl, _⟩ | ⟨_, cc, hcc, hcell⟩
        · have := List.all_eq_true.mp hf _ (lookup_mem h2)
          simp only [bne_self_eq_false, Bool.false_or, Bool.and_eq_true] at this
          rw [hl] at this
          exact absurd this.2 (by decide)
        · obtain ⟨c2, h3⟩ := Option.isSome_iff_exists.mp (hc2 y h2)
          have h4 := hc1 y c2 h3
          rw [hcc] at h4; cases h4
          exact .inr ⟨.inr h2, _, h3, x₁.cell B hcell⟩
    have R' := Rm.deeper (env := newEnv scope s.heap.objs.size mainGlobals cl (qual ++ ".<locals>.") (some f) (.ref c) none builtinsNs) ⟨rfl, rfl, hgen, hco⟩
    refine kla_codeExpr (hb _ rfl rfl _ X _ _ _ R' S' fun u s' ru x₂ => k u s' ru (x₁.trans x₂))
end Mine

namespace Mine
variable {Γ : Cfg} {n : Nat} {env : Env} {ρ : List (Str × D)} {X : List Addr} {s₀ s : Shared} {pins : List (Addr × Obj)} {π : Pv} {A : Around} {Q : Flow → Shared → Prop} {E : Value → Shared → Prop} {rest : List Stmt}

noncomputable def unV : Value → Nat
  | .int i _ => i.toNat
  | _ => 0
theorem unV_map {h : Heap} : ∀ {l : List Nat} {vs : List Value}, RepL X h (iD l) vs → vs.map unV = l
  | [], vs, r => by rw [iD, List.map_nil, repL_nil] at r; subst r; rfl
  | p :: l, vs, r => by
    rw [iD, List.map_cons, repL_cons] at r
    obtain ⟨v, r', rfl, hv, hr⟩ := r
    obtain ⟨t, rfl⟩ := rep_int.mp hv
    rw [List.map_cons, unV_map (l := l) hr]; rfl
theorem repL_unV {h : Heap} : ∀ {ws : List Value}, (∀ v ∈ ws, ∃ t, v = .int (unV v : Nat) t) → RepL X h (iD (ws.map unV)) ws
  | [], _ => repL_nil.mpr rfl
  | v :: ws, hw => by
    obtain ⟨t, ht⟩ := hw v (by simp)
    exact repL_cons.mpr ⟨v, ws, rfl, rep_int.mpr ⟨t, ht⟩, repL_unV fun u hu => hw u (by simp [hu])⟩
theorem srt_raw {κ : PyProof.Rows.KeyKind} (hO : κ.OneLt) (L : Law2 Γ) {e : Expr} {kws : List Keyword} {fp pos : Pos} {params : Arguments} {body : Expr} {scope : Scope} {lpos : Pos} {l : List Nat} {x : Str} {c P ln cn : Nat} {qual : Str} {Q : Value → Shared → Prop} {E : Value → Shared → Prop} {n' : Nat}
    (he : Ev Γ n env ρ e (.list (iD l))) (hl : l.length < 64) (R : Room n A) (hn : n' + 3 ≤ n) (S : St Γ X env ρ s)
    (hkws : keywordEach kws env = [(some (Str.ofString "key"), eval (.Lambda params body scope lpos) env)])
    (hP : (P = 86 ∧ c = 88 ∧ ln = 110 ∧ cn = 73 ∧ qual = "_law_walk.<locals>.<lambda>") ∨ (P = 103 ∧ c = 105 ∧ ln = 140 ∧ cn = 33 ∧ qual = "law.<locals>.<lambda>"))
    (hcode : env.code = .ref c) (hq : env.qual ++ "<lambda>" = qual) (hln : lpos.line = ln) (hcn : lpos.col = cn) (hdef : defaultsOf params env = ([], [])) (hf : freeOk env ρ scope = true)
    (hbind : ∀ cl pm c ctv v, bindArgs (kla_fn "<lambda>" qual params body scope cl pm (.ref c) ctv) ⟨[v], []⟩ = pure [(x, v)]) (hx : scope.names.lookup x = some .local) (hnc : ∀ y ∈ scope.names, y.2 ≠ .cell) (hk : scope.kind = .function) (hco : scope.isCoroutine = false) (hgen : scope.isGenerator = false)
    (dk : Nat → D) (kk : Nat → κ.α) (hsc : ∀ p, Sc (dk p)) (hb : ∀ p ∈ l, ∀ env', env'.scope = scope → env'.globals = mainGlobals → Ev Γ n' env' ((x, .int (p : Nat)) :: cρ scope ρ) body (dk p))
    (hkk : ∀ p h v, Rep X h (dk p) v → κ.keyOf v = some (kk p))
    (hkind : ∀ (keys : List Value) (h : Heap), 2 ≤ keys.length → keys.length = l.length → (∀ (i : Nat) k, keys[i]? = some k → ∃ p, l[i]? = some p ∧ Rep X h (dk p) k) → keyKind' keys.toArray = pure oneType')
    (hks : env.kindOf "sorted" = some .globalImplicit)
    (hst : starEach [e] env = [(false, eval e env)] := by rfl)
    (k : ∀ l' v s', l'.Perm l → l'.Pairwise (fun p q => κ.kle (kk p) (kk q)) → Rep X s'.heap (.list (iD l')) v → Step Γ [] s s' → Q v s') :
    wpAny Γ.M A (eval (.Call (.Name "sorted" fp) [e] kws pos) env) Q E s := by
  refine wpAny_Call_Name_kw (wp_bi (v := .builtin "sorted") L.toOk S hks (L.none _ (by decide)) (by decide +kernel) ?_)
  have hkw : backToKw pos (keywordEach kws env) = [(some (Str.ofString "key"), do let v ← eval (.Lambda params body scope lpos) env; standAt pos; pure v)] := by rw [hkws]; rfl
  refine callWith_builtin_kwB (by rw [hst]; rfl) (by rw [hkw]; rfl) ?_
  rw [hst, hkw]
  refine evalArgs_kwB rfl (Calls.spliced_cons (he A X s _ _ R S fun v s₁ r₁ x₁ => Calls.spliced_nil ?_))
  have B₁ := x₁.base S.base
  have S₁ := S.step x₁
  show wpAny Γ.M A (evalAll [do let v ← eval (.Lambda params body scope lpos) env; standAt pos; pure v]) _ _ s₁
  refine wpAny_bind (wpAny_bind (lam_make L hP hcode hq hln hcn hdef S₁ hf fun f cl s₂ x₂ hfn hL hc1 hc2 => wpAny_bind (wpAny_standAt (wpAny_pure (wpAny_bind (wpAny_holding (wpAny_pure (wpAny_pure ?_))))))))
  have B₂ := x₂.base B₁
  obtain ⟨a, vs, rfl, hLo, hr⟩ := rep_list.mp (x₂.rep B₁ r₁)
  have hlen : vs.length = l.length := by rw [hr.len, iD_len]
  show wpAny Γ.M A (call (.builtin "sorted") [.ref a] [(Str.ofString "key", .ref f)]) _ _ s₂
  have S₂ := S₁.step x₂
  obtain ⟨_, f86, f103⟩ := fresh_ne B₁ hfn
  refine sorted_own hO (KeyAt := fun i key => ∃ p, l[i]? = some p ∧ ∀ h, Rep X h (dk p) key) B₂ hLo.isList (by omega) (fun i key ⟨p, hp, hr⟩ => ⟨_, hkk p s.heap key (hr _)⟩) (fun keys h1 h2 h3 => ?_) (fun i v s' hv x' => ?_) fun D s' out cc keys xs x' hD hDo hks hKA hperm hsort hout => ?_
  · have := hkind keys.toList s.heap (by simpa using h3) (by simpa [hlen] using h1) fun i k' hk' => by
      obtain ⟨p, hp, hr⟩ := h2 i k' (by simpa using hk')
      exact ⟨p, hp, hr _⟩
    simpa using this
  · obtain ⟨p, hp⟩ : ∃ p, l[i]? = some p := ⟨_, List.getElem?_eq_getElem (by rw [← hlen]; exact (List.getElem?_eq_some_iff.mp hv).1)⟩
    obtain ⟨v', hv', rv'⟩ := hr.get (iD_get hp)
    rw [hv] at hv'; cases hv'
    obtain ⟨pm, c1, ctv, ho, hrec, c86, c103⟩ := hL
    have hL' : LamAt s'.heap f cl qual params body scope := by
      refine ⟨pm, c1, ctv, x'.keep _ _ ho (by intro es n h; cases h) f86 f103, ?_, c86, c103⟩
      obtain ⟨c', o, us, t, e2, g, r, r2⟩ := hrec
      cases e2
      exact ⟨c1, o, us, t, rfl, x'.keep _ _ g (by intro es n h; rw [r] at h; cases h) c86 c103, r, r2⟩
    refine lam_call (n := n') (x := x) L ((R.1.le (m := n' + 3) hn).in1.in1) hL' (S₂.step x') hc1 hc2 hf (fun pm c ctv => hbind cl pm c ctv v) hx hnc hk hco hgen (x'.rep B₂ rv') (hb p (List.mem_of_getElem? hp)) fun u s'' ru xu => ⟨⟨p, hp, fun h => (hsc p).rep ru⟩, xu⟩
  · subst hout
    have hlp : xs.toList.Perm (keys.toList.zip vs) := by rw [← ksk_zip]; exact Array.perm_iff_toList_perm.mp hperm
    have hmem : ∀ p ∈ xs.toList, ∃ q t, p.2 = .int (q : Nat) t ∧ κ.keyOf p.1 = some (kk q) := fun p hp => by
      have hz := hlp.mem_iff.mp hp
      obtain ⟨i, hi, e⟩ := List.getElem_of_mem hz
      rw [List.getElem_zip] at e
      have hik : i < keys.size := by simp at hi; omega
      obtain ⟨q, hq, hr'⟩ := hKA i keys[i] (Array.getElem?_eq_getElem hik)
      obtain ⟨v', hv', rv'⟩ := hr.get (iD_get hq)
      obtain ⟨t, rfl⟩ := rep_int.mp rv'
      have hiv : i < vs.length := (List.getElem?_eq_some_iff.mp hv').1
      have e2 : vs[i] = .int (q : Nat) t := (List.getElem?_eq_some_iff.mp hv').2
      subst e
      exact ⟨q, t, e2, by simpa using hkk q s.heap keys[i] (hr' _)⟩
    have hun : ∀ p ∈ xs.toList, (∃ t, p.2 = .int (unV p.2 : Nat) t) ∧ κ.keyOf p.1 = some (kk (unV p.2)) := fun p hp => by
      obtain ⟨q, t, e1, e2⟩ := hmem p hp
      have : unV p.2 = q := by rw [e1]; simp [unV]
      rw [this]
      exact ⟨⟨t, e1⟩, e2⟩
    refine k ((xs.toList.map (·.2)).map unV) (.ref D) s' ?_ ?_ ?_ ((x₁.trans x₂).trans x')
    · have h1 := (hlp.map Prod.snd).map unV
      rw [List.map_snd_zip (by simp; omega), unV_map hr] at h1
      exact h1
    · rw [List.pairwise_map, List.pairwise_map, List.pairwise_iff_getElem]
      intro i j hi hj hij
      have hi' : i < xs.size := by simpa using hi
      have hj' : j < xs.size := by simpa using hj
      have := hsort i j (Nat.le_of_lt hij) hj'
      have kkE : ∀ {i} (h : i < xs.size), KK κ xs i = kk (unV xs[i].2) := fun {i} h => by
        unfold KK
        rw [Array.getElem?_eq_getElem h]
        dsimp only
        rw [(hun xs[i] (by simp)).2]; rfl
      rw [kkE hi', kkE hj'] at this
      simpa using this
    · refine rep_list.mpr ⟨D, xs.toList.map (·.2), rfl, ?_, repL_unV fun v hv => ?_⟩
      · have e2 : (xs.toList.map (·.2)).toArray = xs.map (·.2) := by
          apply Array.ext'; simp
        rw [e2]
        refine ⟨⟨_, _, hDo, rfl, rfl, rfl⟩, fun hm => ?_⟩
        obtain ⟨o, e, _⟩ := B₂.priv _ hm
        rw [hD] at e; cases e
      · obtain ⟨p, hp, rfl⟩ := List.mem_map.mp hv
        exact (hun p hp).1
end Mine

namespace Mine
variable {Γ : Cfg} {n : Nat} {env : Env} {ρ : List (Str × D)} {X : List Addr} {s₀ s : Shared} {pins : List (Addr × Obj)} {π : Pv} {A : Around} {Q : Flow → Shared → Prop} {E : Value → Shared → Prop} {rest : List Stmt}

theorem keys_strs {h : Heap} {tx : Nat → List Nat} {l : List Nat} : ∀ {keys : List Value}, (∀ (i : Nat) k, keys[i]? = some k → ∃ p, l[i]? = some p ∧ Rep X h (.str (tx p)) k) → ∃ ss, StrsAre keys ss := fun {keys} hk => by
  refine ⟨_, strsAre_map keys fun v hv => ?_⟩
  obtain ⟨i, hi, rfl⟩ := List.mem_iff_getElem.mp hv
  obtain ⟨p, _, r⟩ := hk i _ (List.getElem?_eq_getElem hi)
  obtain ⟨t, e⟩ := rep_str.mp r
  exact ⟨_, t, e⟩
theorem keys_ints {h : Heap} {tx : Nat → Int} {l : List Nat} : ∀ {keys : List Value}, (∀ (i : Nat) k, keys[i]? = some k → ∃ p, l[i]? = some p ∧ Rep X h (.int (tx p)) k) → ∃ ss, IntsAre keys ss := fun {keys} hk => by
  have : ∀ v ∈ keys, ∃ i t, v = Value.int i t := fun v hv => by
    obtain ⟨i, hi, rfl⟩ := List.mem_iff_getElem.mp hv
    obtain ⟨p, _, r⟩ := hk i _ (List.getElem?_eq_getElem hi)
    obtain ⟨t, e⟩ := rep_int.mp r
    exact ⟨_, t, e⟩
  clear hk
  induction keys with
  | nil => exact ⟨[], .nil⟩
  | cons v r ih =>
    obtain ⟨i, t, rfl⟩ := this v (by simp)
    obtain ⟨ss, h⟩ := ih fun v hv => this v (by simp [hv])
    exact ⟨_, .cons _ _ h⟩

noncomputable abbrev intKind : PyProof.Rows.KeyKind where
  α := Int
  blt a b := decide (a < b)
  irrefl a := by simp
  trans a b c h1 h2 := by simp only [decide_eq_true_eq] at *; omega
  negTrans a b c h := by simp only [decide_eq_true_eq] at *; omega
  total a b h1 h2 := by simp only [decide_eq_false_iff_not] at *; omega
  keyOf v := match v with | .int i _ => some i | _ => none
  dflt := 0
theorem intKind_oneLt : intKind.OneLt := by
  intro prog w A E s x y a b Q ha hb h
  cases x <;> simp only [intKind, reduceCtorEq, Option.some.injEq] at ha
  cases y <;> simp only [intKind, reduceCtorEq, Option.some.injEq] at hb
  cases ha; cases hb
  exact oneLt_int h

noncomputable def srt (tx : Nat → List Nat) (l : List Nat) : List Nat := l.mergeSort fun p q => !decide (tx q < tx p)
theorem srt_pw {tx : Nat → List Nat} {l : List Nat} : (srt tx l).Pairwise fun p q => ¬ tx q < tx p := by
  have h := List.pairwise_mergeSort (le := fun p q => !decide (tx q < tx p)) (fun a b c h1 h2 => by
    simp only [Bool.not_eq_true', decide_eq_false_iff_not] at *
    exact fun h => h1 (List.lt_of_le_of_lt (List.not_lt.mp h2) h)) (fun a b => by
    simp only [Bool.or_eq_true, Bool.not_eq_true', decide_eq_false_iff_not]
    by_cases h : tx b < tx a
    · exact .inr fun h' => List.lt_irrefl _ (List.lt_trans h h')
    · exact .inl h) l
  exact h.imp fun h => by simpa using h
theorem srt_perm {tx : Nat → List Nat} {l : List Nat} : (srt tx l).Perm l := List.mergeSort_perm _ _
theorem srt_uniq {tx : Nat → List Nat} {l l' : List Nat} (hd : ∀ p ∈ l, ∀ q ∈ l, tx p = tx q → p = q) (hp : l'.Perm l) (hs : l'.Pairwise fun p q => ¬ tx q < tx p) : l' = srt tx l := by
  refine List.Perm.eq_of_pairwise (le := fun p q => ¬ tx q < tx p) (fun a b ha hb h1 h2 => hd a (hp.subset ha) b (srt_perm.subset hb) (List.le_antisymm (List.not_lt.mp h1) (List.not_lt.mp h2))) hs srt_pw (hp.trans srt_perm.symm)

theorem ev_srt (L : Law2 Γ) {e : Expr} {kws : List Keyword} {fp pos : Pos} {params : Arguments} {body : Expr} {scope : Scope} {lpos : Pos} {l : List Nat} {x : Str} {c P ln cn : Nat} {qual : Str} {n' : Nat} (tx : Nat → List Nat) (hd : ∀ p ∈ l, ∀ q ∈ l, tx p = tx q → p = q)
    (he : Ev Γ n env ρ e (.list (iD l))) (hl : l.length < 64) (hn : n' + 3 ≤ n)
    (hkws : keywordEach kws env = [(some (Str.ofString "key"), eval (.Lambda params body scope lpos) env)])
    (hP : (P = 86 ∧ c = 88 ∧ ln = 110 ∧ cn = 73 ∧ qual = "_law_walk.<locals>.<lambda>") ∨ (P = 103 ∧ c = 105 ∧ ln = 140 ∧ cn = 33 ∧ qual = "law.<locals>.<lambda>"))
    (hcode : env.code = .ref c) (hq : env.qual ++ "<lambda>" = qual) (hln : lpos.line = ln) (hcn : lpos.col = cn) (hdef : defaultsOf params env = ([], [])) (hf : freeOk env ρ scope = true)
    (hbind : ∀ cl pm c ctv v, bindArgs (kla_fn "<lambda>" qual params body scope cl pm (.ref c) ctv) ⟨[v], []⟩ = pure [(x, v)]) (hx : scope.names.lookup x = some .local) (hnc : ∀ y ∈ scope.names, y.2 ≠ .cell) (hk : scope.kind = .function) (hco : scope.isCoroutine = false) (hgen : scope.isGenerator = false)
    (hb : ∀ p ∈ l, ∀ env', env'.scope = scope → env'.globals = mainGlobals → Ev Γ n' env' ((x, .int (p : Nat)) :: cρ scope ρ) body (.str (tx p)))
    (hks : env.kindOf "sorted" = some .globalImplicit)
    (hst : starEach [e] env = [(false, eval e env)] := by rfl) :
    Ev Γ n env ρ (.Call (.Name "sorted" fp) [e] kws pos) (.list (iD (srt tx l))) := fun A X s Q E R S k => by
  refine srt_raw strKind_oneLt L he hl R hn S hkws hP hcode hq hln hcn hdef hf hbind hx hnc hk hco hgen (fun p => .str (tx p)) tx (fun _ => trivial) hb (fun p h v r => ?_) (fun keys h h1 h2 h3 => ?_) hks hst fun l' v s' hp hpw r x => ?_
  · obtain ⟨t, rfl⟩ := rep_str.mp r
    show some _ = some _
    rw [mkS_list]
  · obtain ⟨ss, hS⟩ := keys_strs h3
    match keys, h1, hS with
    | v₁ :: v₂ :: vs, _, hS =>
      exact keyKind_strs hS
  · have : l' = srt tx l := srt_uniq hd hp (hpw.imp fun h => by simpa [KeyOrd.kle] using h)
    subst this
    exact k v s' r x
end Mine

namespace Mine
variable {Γ : Cfg} {n : Nat} {env : Env} {ρ : List (Str × D)} {X : List Addr} {s₀ s : Shared} {pins : List (Addr × Obj)} {π : Pv} {A : Around} {Q : Flow → Shared → Prop} {E : Value → Shared → Prop} {rest : List Stmt}

theorem fn_introC {name : Str} {params : Arguments} {body : List Stmt} {dl rt tp scope ts bd pos} {a : Addr} {ds : List D} {d : D} (ps : List Str) (K : Γ.Ok) (h : Defd Γ a (.FunctionDef name params body dl rt tp scope ts bd pos))
    (hb : ∀ A X s₀ env s E Q pm c doc, (∃ o, Γ.h.get? a = some o ∧ o.data = .func (Calls.docDef name params body scope pm (.ref c) doc)) → env = callEnvC (Calls.docDef name params body scope pm (.ref c) doc) s₀.heap.objs.size a → Room n A → Fm Γ X env s₀ [] [] (ps.zip ds) s → (∀ v s', Rep X s'.heap d v → Step Γ [] s₀ s' → Q (.ret v) s') →
      Go Γ A body env Q E s)
    (hlen : ps.length = ds.length := by rfl)
    (hps : ∀ pm c doc vals, vals.length = ps.length → bindArgs (Calls.docDef name params body scope pm c doc) ⟨vals, []⟩ = pure (ps.zip vals))
    (hnd : ps.Nodup := by decide) (hcn : ((cellsFrom 0 scope.names []).map (·.1)).Nodup := by decide)
    (hk : ∀ pm c doc L, ps.all (nameOk (callEnvC (Calls.docDef name params body scope pm c doc) L a) []) = true := by intro _ _ _ _; rfl)
    (hco : scope.isCoroutine = false := by rfl) (hgen : scope.isGenerator = false := by rfl) (hkind : scope.kind = .function := by rfl) : Fn Γ (n + 1) [] a ds d := by
  obtain ⟨pm, c, doc, o, h1, h2, h3, h4, h5, h6, h7, h8⟩ := h
  intro A X s vals R Rm B rv k
  have hv : vals.length = ps.length := by rw [hlen, rv.len]
  have hfst : (ps.zip vals).map (·.1) = ps := by rw [List.map_fst_zip]; omega
  refine codeAny_call_cells Rm.depth (B.old a o h1 h5 h6) h2 (B.lim K) (B.code h3 h7 h8) rfl (hps _ _ _ vals hv) rfl (fun x hx => ?_) (fun s₁ I => ?_) hco hgen hkind
  · have hm : x.1 ∈ ps := by rw [← hfst]; exact List.mem_map.mpr ⟨x, hx, rfl⟩
    exact nameOk.kind (List.all_eq_true.mp (hk pm (.ref c) doc s.heap.objs.size) x.1 hm)
  · generalize henv : callEnvC (Calls.docDef name params body scope pm (.ref c) doc) s.heap.objs.size a = env at I ⊢
    have x₁ : Step Γ [] s s₁ := by
      obtain ⟨h', tk, rfl⟩ := I.toInCall.same
      exact Step.of_keeps I.toInCall.keep
    have hL : s.heap.get? env.locals = none := Heap.get?_none_of_le I.toInCall.fresh
    have hC : ∀ y c, (y, c) ∈ env.cells → s.heap.get? c = none := fun y c hc => Heap.get?_none_of_le (Nat.le_of_lt (Nat.lt_of_le_of_lt I.toInCall.fresh (I.above y c hc)))
    have hcn' : (env.cells.map (·.1)).Nodup := by
      subst henv
      show ((cellsFrom _ scope.names []).map (·.1)).Nodup
      rw [cellsFrom_names scope.names _ 0 [] [] rfl]; exact hcn
    have F : Fm Γ X env s [] [] (ps.zip ds) s₁ := by
      refine ⟨B, x₁, fun I' hI => ?_, fun y c hc => ?_, I.apart, ⟨x₁.base B, ?_, _, I.toInCall.ns, fun x d hx => ?_⟩, by simp, by simp [adr], by simp⟩
      · rcases hI with rfl | ⟨y, h⟩ | h
        · exact hL
        · exact hC y I' h
        · simp [adr] at h
      · exact ⟨_, I.cell y c (lookup_of_mem hcn' hc)⟩
      · subst henv; exact ⟨rfl, rfl, hkind⟩
      · obtain ⟨v, hl, hr⟩ := zip_rep rv x d hx
        have hm : x ∈ ps := by rw [← hfst]; exact List.mem_map.mpr ⟨_, mem_of_lookup hl, rfl⟩
        refine ⟨v, x₁.rep B hr, ?_⟩
        have hkk := List.all_eq_true.mp (hk pm (.ref c) doc s.heap.objs.size) x hm
        rw [henv] at hkk
        rcases nameOk.kind hkk with hk1 | ⟨hk1, hk2⟩
        · exact .inl ⟨hk1, bindL_look hk1 (by rw [hfst]; exact hnd) hl⟩
        · obtain ⟨c', hc'⟩ := Option.isSome_iff_exists.mp hk2
          refine .inr ⟨.inl hk1, c', hc', ?_⟩
          have := I.cell x c' hc'
          rwa [bindC_look hk1 (by rw [hfst]; exact hnd) hl] at this
    have fine : FineEnv env := by subst henv; exact ⟨rfl, rfl, hgen, hco⟩
    exact (hb _ X s env s₁ _ _ pm c doc ⟨o, h1, h2⟩ henv.symm (Rm.deeper fine) F fun v s' rv' x' => k v s' rv' x').run

structure Law3 (Γ : Cfg) : Prop extends Law2 Γ where
  c15 : ∀ o fd, Γ.h.get? 89 = some o → o.data = .func fd → fd.code = .ref 88
  c18 : ∀ o fd, Γ.h.get? 106 = some o → o.data = .func fd → fd.code = .ref 105
  d18 : Defd Γ 106 (stAt 18)

noncomputable def kids (ab : List Nat) (ts : List (List Nat)) (top : Nat) : List Nat := srt (tx ts) (((List.range 8).map (1 + ·)).filter fun q => up ab q == top)
theorem mem_kids {ab : List Nat} {ts : List (List Nat)} {top q : Nat} : q ∈ kids ab ts top ↔ (1 ≤ q ∧ q ≤ 8) ∧ up ab q = top := by
  unfold kids
  rw [srt_perm.mem_iff, List.mem_filter, List.mem_map]
  simp only [List.mem_range, beq_iff_eq]
  refine and_congr_left fun _ => ⟨?_, ?_⟩
  · rintro ⟨a, h, rfl⟩; omega
  · rintro ⟨h1, h2⟩; exact ⟨q - 1, by omega, by omega⟩
noncomputable def wlk (K : Nat → List Nat) : Nat → Nat → List Nat × List Nat
  | 0, _ => ([], [])
  | f + 1, top => ((K top).flatMap fun p => p :: (wlk K f p).1, (K top).flatMap fun p => (wlk K f p).2 ++ [p])

theorem sum_filter_le {g : Nat → Nat} {p p' : Nat → Bool} (h : ∀ q, p q = true → p' q = true) : ∀ l : List Nat, ((l.filter p).map g).sum ≤ ((l.filter p').map g).sum
  | [] => by simp
  | q :: l => by
    have ih := sum_filter_le (g := g) h l
    rw [List.filter_cons, List.filter_cons]
    by_cases hp : p q = true
    · rw [if_pos hp, if_pos (h q hp)]; simp; omega
    · rw [if_neg hp]; split
      · simp; omega
      · exact ih
theorem sum_le {g g' : Nat → Nat} : ∀ {l : List Nat}, (∀ q ∈ l, g q ≤ g' q) → (l.map g).sum ≤ (l.map g').sum
  | [], _ => by simp
  | q :: l, h => by
    have := sum_le (l := l) fun q hq => h q (by simp [hq])
    have := h q (by simp)
    simp; omega
theorem kids_sum {ab : List Nat} {ts : List (List Nat)} (T : Tree ab) {top : Nat} (h : top ≤ 8) : ((kids ab ts top).map fun q => 2 ^ (8 - q)).sum ≤ 2 ^ (8 - top) - 1 := by
  have e : ((kids ab ts top).map fun q => 2 ^ (8 - q)).sum = ((((List.range 8).map (1 + ·)).filter fun q => up ab q == top).map fun q => 2 ^ (8 - q)).sum :=
    List.Perm.sum_nat (srt_perm.map _)
  rw [e]
  have h2 : ((((List.range 8).map (1 + ·)).filter fun q => up ab q == top).map fun q => 2 ^ (8 - q)).sum = ((((List.range 8).map (1 + ·)).filter fun q => up ab q == top && (decide (1 ≤ q) && decide (q ≤ 8))).map fun q => 2 ^ (8 - q)).sum := by
    congr 2
    refine List.filter_congr fun q hq => ?_
    obtain ⟨i, hi, rfl⟩ := List.mem_map.mp hq
    have := List.mem_range.mp hi
    have h1 : 1 ≤ 1 + i := by omega
    have h2 : 1 + i ≤ 8 := by omega
    simp [h1, h2]
  rw [h2]
  refine Nat.le_trans (sum_filter_le (p' := fun q => decide (top < q)) (fun q hq => ?_) _) ?_
  · simp only [Bool.and_eq_true, beq_iff_eq, decide_eq_true_eq] at hq ⊢
    have := T.lt q (by omega) hq.2.2
    omega
  · clear h2 e
    have key : ∀ t ∈ List.range 9, ((((List.range 8).map (1 + ·)).filter fun q => decide (t < q)).map fun q => 2 ^ (8 - q)).sum ≤ 2 ^ (8 - t) - 1 := by decide
    exact key top (List.mem_range.mpr (by omega))
theorem wk_len {ab : List Nat} {ts : List (List Nat)} (T : Tree ab) : ∀ f p, p ≤ 8 → (wlk (kids ab ts) f p).1.length ≤ 2 ^ (8 - p) - 1 ∧ (wlk (kids ab ts) f p).2.length ≤ 2 ^ (8 - p) - 1
  | 0, _, _ => by simp [wlk]
  | f + 1, p, hp => by
    have key : ∀ q ∈ kids ab ts p, (q :: (wlk (kids ab ts) f q).1).length ≤ 2 ^ (8 - q) ∧ ((wlk (kids ab ts) f q).2 ++ [q]).length ≤ 2 ^ (8 - q) := fun q hq => by
      obtain ⟨⟨h1, h2⟩, h3⟩ := mem_kids.mp hq
      have i := wk_len (ts := ts) T f q h2
      have : 0 < 2 ^ (8 - q) := Nat.pow_pos (by decide)
      rw [List.length_cons, List.length_append, List.length_singleton]; exact ⟨by have := i.1; omega, by have := i.2; omega⟩
    unfold wlk
    dsimp only
    rw [List.length_flatMap, List.length_flatMap]
    exact ⟨Nat.le_trans (sum_le fun q hq => (key q hq).1) (kids_sum T hp), Nat.le_trans (sum_le fun q hq => (key q hq).2) (kids_sum T hp)⟩
theorem wk_255 {ab : List Nat} {ts : List (List Nat)} (T : Tree ab) (f p : Nat) (hp : p ≤ 8) : (wlk (kids ab ts) f p).1.length ≤ 255 ∧ (wlk (kids ab ts) f p).2.length ≤ 255 := by
  have h := wk_len (ts := ts) T f p hp
  have e : 2 ^ (8 - p) - 1 ≤ 255 := Nat.sub_le_sub_right (Nat.pow_le_pow_right (n := 2) (by decide) (Nat.sub_le 8 p)) 1
  exact ⟨Nat.le_trans h.1 e, Nat.le_trans h.2 e⟩
theorem flatMap_take_le {α β : Type} {l : List α} {g : α → List β} (j : Nat) : ((l.take j).flatMap g).length ≤ (l.flatMap g).length := by
  have h : l.flatMap g = (l.take j).flatMap g ++ (l.drop j).flatMap g := by rw [← List.flatMap_append, List.take_append_drop]
  rw [h, List.length_append]; omega
end Mine

namespace Mine
variable {Γ : Cfg} {n : Nat} {env : Env} {ρ : List (Str × D)} {X : List Addr} {s₀ s : Shared} {pins : List (Addr × Obj)} {π : Pv} {A : Around} {Q : Flow → Shared → Prop} {E : Value → Shared → Prop} {rest : List Stmt}

theorem fn_walk (L : Law3 Γ) {ab : List Nat} {ts : List (List Nat)} (T : Tree ab) (hts : ts.length = 9) (hd : ∀ p q, p ≤ 8 → q ≤ 8 → tx ts p = tx ts q → p = q) : ∀ f (top : Nat), top ≤ 8 → 9 ≤ top + f → Fn Γ (20 + f) [] 89 [.int (top : Nat), .list (iD ab), .list (sD ts)] (.tup [.list (iD (wlk (kids ab ts) f top).1), .list (iD (wlk (kids ab ts) f top).2)])
  | 0, top, h1, h2 => by omega
  | f + 1, top, ht, h2 => by
    refine fn_introC (n := 20 + f) ["top", "above", "texts"] L.toOk L.d15 (fun A X s₀ env s E Q pm c doc hcd he R F k => ?_) (hps := fun pm c doc vals hv => by obtain ⟨a, b, d, rfl⟩ := zip3 hv; rfl)
    have hcode : env.code = .ref 88 := by
      obtain ⟨o, e1, e2⟩ := hcd
      rw [he]; exact L.c15 o _ e1 e2
    subst he
    refine x_tups ["forth", "back"] (ds := [.list [], .list []]) (ev_tup (.cons (ev_list .nil) rfl (.cons (ev_list .nil) rfl .nil))) R F (fun s F => ?_) (st_bind (st_bind .nil)) (h3 := by omega)
    have hkl : (kids ab ts top).length ≤ 8 := by
      unfold kids
      rw [srt_perm.length_eq]
      exact Nat.le_trans (List.length_filter_le _ _) (by simp)
    refine x_for (ds := iD (kids ab ts top)) (fun j => [("top", .int (top : Nat)), ("above", .list (iD ab)), ("texts", .list (sD ts)),
        ("forth", .list (iD (((kids ab ts top).take j).flatMap fun p => p :: (wlk (kids ab ts) f p).1))), ("back", .list (iD (((kids ab ts top).take j).flatMap fun p => (wlk (kids ab ts) f p).2 ++ [p])))]) (fun _ => [])
      (forIt_list (ev_srt L.toLaw2 (n' := 16) (c := 88) (P := 86) (ln := 110) (cn := 73) (qual := "_law_walk.<locals>.<lambda>") (x := "k") (tx ts) ?_ ?_ ?_ ?_ rfl (.inl ⟨rfl, rfl, rfl, rfl, rfl⟩) hcode ?hq rfl rfl rfl ?hf ?hbind rfl (by decide) rfl rfl rfl ?_ rfl) iD_sc (by omega)) R (F.weak (weak_cons rfl (weak_cons rfl (weak_cons rfl (weak_cons rfl (weak_cons rfl weak_nil)))))) iD_sc (fun _ => rfl) (fun j d hd pins' s Q' E' F kn kr => ?_) (fun s F => ?_)
    case hq => show (("_law_walk" : Str) ++ ".<locals>." ++ "<lambda>" : Str) = _; decide +kernel
    case hf => rfl
    case hbind => intro cl pm c ctv v; rfl
    · exact fun p hp q hq h => hd p q (by have := (List.mem_filter.mp hp).1; simp at this; omega) (by have := (List.mem_filter.mp hq).1; simp at this; omega) h
    · refine Ev.to (ev_compG (fun p : Nat => .int (p : Nat)) unI ((List.range 8).map (1 + ·)) (fun q => up ab q == top) (fun p => .int (p : Nat)) (fun a _ => by simp [unI]) ?_ (fun C cl a ha => ?_) (fun C cl a ha _ => ev_name rfl) (by simp)) (by simp [iD])
      · rw [show ((List.range 8).map (1 + ·)).map (fun p : Nat => D.int (p : Nat)) = (List.range 8).map fun i => D.int (1 + (i : Nat)) from by rw [List.map_map]; rfl]
        exact evi_range2 L.toOk rfl (L.none _ (by decide)) ev_int ev_int ⟨by decide, by decide⟩ (by decide) (by omega)
      · have ha8 : a ≤ 8 := by simp at ha; omega
        have e : (up ab a == top) = ((up ab a : Int) == (top : Int)) := by rw [Bool.eq_iff_iff]; simp; omega
        rw [e]
        exact tr_cmp (ev_item (k := ((a : Nat) : Int)) (ev_name rfl) (ev_name rfl) (nn a) (lt62c ha8) (iD_get (T.get ha8))) (ev_name rfl) op_eq
    · exact Nat.lt_of_le_of_lt (List.length_filter_le _ _) (by simp)
    · omega
    · intro p hp env' h1 h2
      have hp8 : p ≤ 8 := by have := (List.mem_filter.mp hp).1; simp at this; omega
      exact ev_item (k := ((p : Nat) : Int)) (ev_name rfl) (ev_name rfl) (nn p) (lt62c hp8) (sD_get (tx_get (by rw [hts]; exact Nat.lt_succ_of_le hp8)))
    · have hj : j < (kids ab ts top).length := by
        have := (List.getElem?_eq_some_iff.mp hd).1; simpa [iD] using this
      have hg : (kids ab ts top)[j]? = some (kids ab ts top)[j] := List.getElem?_eq_getElem hj
      have hd' : d = .int ((kids ab ts top)[j] : Nat) := by
        rw [iD_get hg] at hd; exact (Option.some.inj hd).symm
      subst hd'
      obtain ⟨⟨q1, q2⟩, q3⟩ := mem_kids.mp (List.getElem_mem hj)
      generalize (kids ab ts top)[j] = q at *
      have hlt := T.lt q (by omega) q2
      refine x_tup ["ahead", "behind"] (ev_callFn L.toLaw L.d15 (fn_walk L T hts ‹_› f q q2 (by omega)) (.cons (ev_name rfl) rfl (.cons (ev_name rfl) rfl (.cons (ev_name rfl) rfl .nil)))) R F (fun s F => ?_) (st_assign (st_assign .nil)) (h3 := by omega)
      have b1 := flatMap_take_le (l := kids ab ts top) (g := fun p => p :: (wlk (kids ab ts) f p).1) j
      have b2 := flatMap_take_le (l := kids ab ts top) (g := fun p => (wlk (kids ab ts) f p).2 ++ [p]) j
      have w1 := wk_255 (ts := ts) T (f + 1) top ht
      have w2 := wk_255 (ts := ts) T f q q2
      have a1 := Nat.le_trans b1 w1.1
      have a2 := Nat.le_trans b2 w1.2
      refine x_assign (ev_bin (ev_bin (ev_name rfl) (ev_list (.cons (ev_name rfl) rfl .nil)) (op_addl (by rw [iD_len]; exact Nat.le_trans (Nat.add_le_add_right a1 1) (by decide)))) (ev_name rfl) (op_addl (by rw [List.length_append, iD_len, iD_len]; exact Nat.le_trans (Nat.add_le_add (Nat.add_le_add_right a1 1) w2.1) (by decide)))) R F fun s F => ?_
      refine x_assign (ev_bin (ev_bin (ev_name rfl) (ev_name rfl) (op_addl (by rw [iD_len, iD_len]; exact Nat.le_trans (Nat.add_le_add a2 w2.2) (by decide)))) (ev_list (.cons (ev_name rfl) rfl .nil)) (op_addl (by rw [List.length_append, iD_len, iD_len]; exact Nat.le_trans (Nat.add_le_add_right (Nat.add_le_add a2 w2.2) 1) (by decide)))) R F fun s F => ?_
      refine Go.nil (kn s (F.weak ?_))
      refine weak_cons rfl (weak_cons rfl (weak_cons rfl (weak_cons ?_ (weak_cons ?_ weak_nil))))
      · show some _ = some _; rw [mem_take_succ hg]; simp [iD]
      · show some _ = some _; rw [mem_take_succ hg]; simp [iD]
    · have e : (kids ab ts top).take (iD (kids ab ts top)).length = kids ab ts top := by rw [iD_len]; simp
      rw [e] at F
      exact x_ret (ev_tup (.cons (ev_name rfl) rfl (.cons (ev_name rfl) rfl .nil))) R F k
end Mine

namespace Mine
variable {Γ : Cfg} {n : Nat} {env : Env} {ρ : List (Str × D)} {X : List Addr} {s₀ s : Shared} {pins : List (Addr × Obj)} {π : Pv} {A : Around} {Q : Flow → Shared → Prop} {E : Value → Shared → Prop} {rest : List Stmt}

theorem collect_range {prog : Program} {w : World} {E : Value → Shared → Prop} {r : Addr} {n : Nat} {t u v : Tok} {Q : List Value → Shared → Prop} (hh : A.handled = none) (hr : IsRange s.heap r 0 n 1 t u v) (hn : n ≤ 1000)
    (h : ∀ h' tk (acc : Array Value), (∀ b o, s.heap.get? b = some o → h'.get? b = some o) → ItemsOf (fun i v => ∃ t, v = .int i t) acc n → Q acc.toList { s with heap := h', toks := tk }) :
    wpAny (model prog w) A (collect (.ref r)) Q E s := by
  have hsz : Builtin.Range.rangeSize 0 (n : Int) 1 = (n : Int) := by rw [rangeSize_one]; split <;> omega
  have key : ∀ (R : Result → Shared → Prop), (∀ h' tk acc' c', (∀ b o, b ≠ s.heap.objs.size → (s.heap.push (seqObj "list" #[] 0)).get? b = some o → h'.get? b = some o) → h'.get? s.heap.objs.size = some { cls := .type "list", dict := none, data := .seq acc' c', slots := #[] } →
      ItemsOf (fun i v => ∃ t, v = .int (0 + i * 1) t) acc' n → R (.ok (.ret (.ref s.heap.objs.size))) { s with heap := h', toks := tk }) →
      codeAny (model prog w) A (.builtin "list.__iadd__" ⟨[.ref s.heap.objs.size, .ref r], []⟩) R { s with heap := s.heap.push (seqObj "list" #[] 0) } := fun R hR => by
    refine codeAny_builtin entry_list_iadd' ?_
    show wpAny (model prog w) A.in1 (Builtin.List.listExtendWith (.ref s.heap.objs.size) (.ref r) (.ref s.heap.objs.size)) _ _ { s with heap := s.heap.push (seqObj "list" #[] 0) }
    exact wpAny_extend_range (s := { s with heap := s.heap.push (seqObj "list" #[] 0) }) hh (Heap.get?_push_of_some _ hr) (small_one (by omega) (by omega) (by omega) (by omega)) hsz (by omega) s.heap.objs.size (.ref s.heap.objs.size) 0 (Heap.get?_push_size _ rfl) hR
  unfold collect
  refine wpAny_bind (wpAny_runValue (codeAny_builtin entry_proto_collect' ?_))
  show wpAny _ _ (do again (.builtin "list.__iadd__" ⟨[← newList [], .ref r], []⟩)) _ _ s
  refine wpAny_bind (wpAny_newList (wpAny_pure ⟨Code.quiet_builtin _ (by decide +kernel), key _ fun h' tk acc' c' hk hS hacc => ?_⟩))
  show wpAny (model prog w) A (do
      let o ← load s.heap.objs.size
      match o.data with
      | .seq xs _ => pure xs.toList
      | _ => unsupported "internal:collect") Q E { s with heap := h', toks := tk }
  refine wpAny_bind (wpAny_load hS ?_)
  refine wpAny_pure (h _ _ _ (fun b o e => hk b o (Nat.ne_of_lt (Heap.lt_size e)) (Heap.get?_push_of_some _ e)) ⟨hacc.1, fun j v hv => ?_⟩)
  obtain ⟨t, e⟩ := hacc.2 j v hv
  exact ⟨t, by rw [e]; simp⟩

theorem sorted_rng {κ : PyProof.Rows.KeyKind} (hO : κ.OneLt) {s : Shared} {r q : Addr} {m : Nat} {t u v : Tok} {KeyAt : Nat → Value → Prop} {Q : Value → Shared → Prop} {E : Value → Shared → Prop} (hh : A.handled = none) (B : Base Γ X s.heap) (hr : IsRange s.heap r 0 m 1 t u v) (h64 : m < 64)
    (hkey : ∀ i k, KeyAt i k → ∃ q, κ.keyOf k = some q)
    (hkind : ∀ keys : Array Value, keys.size = m → (∀ (i : Nat) k, keys[i]? = some k → KeyAt i k) → 2 ≤ keys.size → keyKind' keys = pure oneType')
    (turn : ∀ (i : Nat) t s', i < m → Step Γ [] s s' → wpAny Γ.M A.in1.in1 (call (.ref q) [.int i t]) (fun key s'' => KeyAt i key ∧ Step Γ [] s' s'') (fun _ _ => False) s')
    (h : ∀ D s' out c (keys : Array Value) (xs : Array Keyed) (acc : Array Value), ItemsOf (fun i v => ∃ t, v = .int i t) acc m → Step Γ [] s s' → s.heap.get? D = none → s'.heap.get? D = some (seqObj "list" out c) → keys.size = m → (∀ (i : Nat) k, keys[i]? = some k → KeyAt i k) → xs.Perm (keys.zip acc) → SortedToK κ xs xs.size → out = xs.map (·.2) →
      Q (.ref D) s') :
    wpAny Γ.M A (call (.builtin "sorted") [.ref r] [(Str.ofString "key", .ref q)]) Q E s := by
  refine call_function_entry_kw kind_sorted plain_sorted entry_sorted (ksk_s1 _ _) ?_
  unfold Builtin.«sorted»
  refine wpAny_bind (m := checkCount "sorted" 1 1 _) (wpAny_pure ?_)
  refine wpAny_bind (collect_range hh hr (by omega) fun h' tk acc keep hacc => ?_)
  have hl : acc.toList.length = m := by simpa using hacc.1
  refine wpAny_bind (wpAny_newList ?_ (by rw [sizeLine_eq]; omega))
  have hoL : (h'.push (seqObj "list" acc.toList.toArray 0)).get? h'.objs.size = some (seqObj "list" acc.toList.toArray 0) := Heap.get?_push_size _ rfl
  have keep' : ∀ b o, s.heap.get? b = some o → (h'.push (seqObj "list" acc.toList.toArray 0)).get? b = some o := fun b o e => Heap.get?_push_of_some _ (keep b o e)
  show wpAny _ _ _ _ _ { s with heap := h'.push (seqObj "list" acc.toList.toArray 0), toks := tk }
  refine wpAny_bind (wpAny_holding (wpAny_call_entry_kw slot_list_sort ⟨_, hoL, rfl⟩ entry_list_sort ?body (ksk_l1 _ _)))
  case body =>
    show wpAny Γ.M A.in1.in1 (Builtin.«list.sort» ⟨[.ref h'.objs.size], [(Str.ofString "key", .ref q)]⟩) _ _ _
    rw [ksk_t1]
    have hnew : s.heap.get? h'.objs.size = none := by
      cases e : s.heap.get? h'.objs.size with
      | none => rfl
      | some o => exact absurd (Heap.lt_size (keep _ _ e)) (Nat.lt_irrefl _)
    refine ksk_own hO (σ := s) (s := { s with heap := h'.push (seqObj "list" acc.toList.toArray 0), toks := tk }) B (Step.of_keeps (tk := tk) keep') hnew hoL (by omega) hkey (fun keys h1 h2 h3 => hkind keys (by rw [h1]; exact hl) h2 h3) (fun i v s' hv x => ?_) fun s' out c keys xs x1 x2 x3 x4 x5 x6 x7 => ⟨_, rfl, ?_⟩
    · obtain ⟨t, rfl⟩ := hacc.2 i v (by simpa using hv)
      exact turn i t s' (by rw [← hl]; exact (List.getElem?_eq_some_iff.mp hv).1) x
    · exact wpAny_pure ⟨_, rfl, h _ s' out c keys xs acc hacc x1 hnew x2 (by rw [x3]; exact hl) x4 (by simpa using x5) x6 x7⟩
end Mine

namespace Mine
variable {Γ : Cfg} {n : Nat} {env : Env} {ρ : List (Str × D)} {X : List Addr} {s₀ s : Shared} {pins : List (Addr × Obj)} {π : Pv} {A : Around} {Q : Flow → Shared → Prop} {E : Value → Shared → Prop} {rest : List Stmt}

theorem rng_val (K : Γ.Ok) {p pos e} {m : Nat} {Q : Value → Shared → Prop} {E : Value → Shared → Prop} (hk : env.kindOf "range" = some .globalImplicit) (hm : Γ.mg "range" = none) (he : Ev Γ n env ρ e (.int m)) (hz : m ≤ 1000000) (R : Room n A) (S : St Γ X env ρ s)
    (hs : starEach [e] env = [(false, eval e env)])
    (k : ∀ r t u v s', IsRange s'.heap r 0 m 1 t u v → r ≠ 86 → r ≠ 103 → Step Γ [] s s' → Q (.ref r) s') : wpAny Γ.M A (eval (.Call (.Name "range" p) [e] [] pos) env) Q E s := by
  refine wpAny_Call_NameR (wp_bi (v := .type "range") K S hk hm (by decide +kernel) ?_)
  refine PySem.callWith_type (by rw [hs]; rfl) (evs_args (.cons he hs .nil) R S fun vs s₁ r₁ x₁ => ?_)
  obtain ⟨v, rfl, hv⟩ := repL1 (r₁)
  obtain ⟨t, rfl⟩ := rep_int.mp hv
  obtain ⟨_, h1, h2⟩ := fresh_ne (x₁.base S.base) (Heap.get?_none_of_le (Nat.le_refl s₁.heap.objs.size))
  exact call_range_1 (k _ _ _ _ _ (IsRange.new ..) h1 h2 (x₁.trans Step.push))

theorem items_ints {h : Heap} {m : Nat} {acc : Array Value} (hacc : ItemsOf (fun (j : Nat) v => ∃ tk, v = .int j tk) acc m) : RepL X h (iD (List.range m)) acc.toList := by
  have key : ∀ (vs : List Value) (k : Nat), (∀ (j : Nat) v, vs[j]? = some v → ∃ tk, v = Value.int (k + j : Nat) tk) → RepL X h ((List.range' k vs.length).map fun j => D.int (j : Nat)) vs := by
    intro vs
    induction vs with
    | nil => intro k _; simpa using repL_nil.mpr rfl
    | cons v r ih =>
      intro k hv
      rw [List.length_cons, List.range'_succ, List.map_cons]
      refine repL_cons.mpr ⟨v, r, rfl, rep_int.mpr (by simpa using hv 0 v rfl), ih (k + 1) fun j u hu => ?_⟩
      have := hv (j + 1) u hu
      rwa [show k + (j + 1) = k + 1 + j by omega] at this
  have := key acc.toList 0 (fun j v hv => by simpa using hacc.2 j v (by simpa using hv))
  have hl : acc.toList.length = m := by simpa using hacc.1
  rw [hl, ← List.range_eq_range'] at this
  exact this

theorem srt_rng {κ : PyProof.Rows.KeyKind} (hO : κ.OneLt) (L : Law2 Γ) {e8 : Expr} {rp rpos : Pos} {kws : List Keyword} {fp pos : Pos} {params : Arguments} {body : Expr} {scope : Scope} {lpos : Pos} {m : Nat} {x : Str} {c P ln cn : Nat} {qual : Str} {Q : Value → Shared → Prop} {E : Value → Shared → Prop} {n' : Nat}
    (he : Ev Γ n env ρ e8 (.int m)) (hl : m < 64) (h3 : 3 ≤ n) (R : Room n A) (hn : n' + 3 ≤ n) (S : St Γ X env ρ s)
    (hkws : keywordEach kws env = [(some (Str.ofString "key"), eval (.Lambda params body scope lpos) env)])
    (hP : (P = 86 ∧ c = 88 ∧ ln = 110 ∧ cn = 73 ∧ qual = "_law_walk.<locals>.<lambda>") ∨ (P = 103 ∧ c = 105 ∧ ln = 140 ∧ cn = 33 ∧ qual = "law.<locals>.<lambda>"))
    (hcode : env.code = .ref c) (hq : env.qual ++ "<lambda>" = qual) (hln : lpos.line = ln) (hcn : lpos.col = cn) (hdef : defaultsOf params env = ([], [])) (hf : freeOk env ρ scope = true)
    (hbind : ∀ cl pm c ctv v, bindArgs (kla_fn "<lambda>" qual params body scope cl pm (.ref c) ctv) ⟨[v], []⟩ = pure [(x, v)]) (hx : scope.names.lookup x = some .local) (hnc : ∀ y ∈ scope.names, y.2 ≠ .cell) (hk : scope.kind = .function) (hco : scope.isCoroutine = false) (hgen : scope.isGenerator = false)
    (dk : Nat → D) (kk : Nat → κ.α) (hsc : ∀ p, Sc (dk p)) (hb : ∀ p, p < m → ∀ env', env'.scope = scope → env'.globals = mainGlobals → Ev Γ n' env' ((x, .int (p : Nat)) :: cρ scope ρ) body (dk p))
    (hkk : ∀ p h v, Rep X h (dk p) v → κ.keyOf v = some (kk p))
    (hkind : ∀ (keys : List Value) (h : Heap), 2 ≤ keys.length → keys.length = m → (∀ (i : Nat) k, keys[i]? = some k → ∃ p, (List.range m)[i]? = some p ∧ Rep X h (dk p) k) → keyKind' keys.toArray = pure oneType')
    (hks : env.kindOf "sorted" = some .globalImplicit)
    (hkr : env.kindOf "range" = some .globalImplicit := by rfl)
    (hs8 : starEach [e8] env = [(false, eval e8 env)] := by rfl)
    (hst : starEach [.Call (.Name "range" rp) [e8] [] rpos] env = [(false, eval (.Call (.Name "range" rp) [e8] [] rpos) env)] := by rfl)
    (k : ∀ l' v s', l'.Perm (List.range m) → l'.Pairwise (fun p q => κ.kle (kk p) (kk q)) → Rep X s'.heap (.list (iD l')) v → Step Γ [] s s' → Q v s') :
    wpAny Γ.M A (eval (.Call (.Name "sorted" fp) [.Call (.Name "range" rp) [e8] [] rpos] kws pos) env) Q E s := by
  refine wpAny_Call_Name_kw (wp_bi (v := .builtin "sorted") L.toOk S hks (L.none _ (by decide)) (by decide +kernel) ?_)
  have hkw : backToKw pos (keywordEach kws env) = [(some (Str.ofString "key"), do let v ← eval (.Lambda params body scope lpos) env; standAt pos; pure v)] := by rw [hkws]; rfl
  refine callWith_builtin_kwB (by rw [hst]; rfl) (by rw [hkw]; rfl) ?_
  rw [hst, hkw]
  refine evalArgs_kwB rfl (Calls.spliced_cons (rng_val L.toLaw.toOk hkr (L.none _ (by decide)) he (by omega) R S hs8 fun r t u v s₁ hr n86 n103 x₁ => Calls.spliced_nil ?_))
  have B₁ := x₁.base S.base
  have S₁ := S.step x₁
  show wpAny Γ.M A (evalAll [do let v ← eval (.Lambda params body scope lpos) env; standAt pos; pure v]) _ _ s₁
  refine wpAny_bind (wpAny_bind (lam_make L hP hcode hq hln hcn hdef S₁ hf fun f cl s₂ x₂ hfn hL hc1 hc2 => wpAny_bind (wpAny_standAt (wpAny_pure (wpAny_bind (wpAny_holding (wpAny_pure (wpAny_pure ?_))))))))
  have B₂ := x₂.base B₁
  have hr := x₂.keep _ _ hr (by intro es n h; cases h) n86 n103
  show wpAny Γ.M A (call (.builtin "sorted") [.ref r] [(Str.ofString "key", .ref f)]) _ _ s₂
  have S₂ := S₁.step x₂
  obtain ⟨_, f86, f103⟩ := fresh_ne B₁ hfn
  refine sorted_rng hO (KeyAt := fun i key => ∃ p, (List.range m)[i]? = some p ∧ ∀ h, Rep X h (dk p) key) (R.1.1 h3) B₂ hr (by omega) (fun i key ⟨p, hp, hr⟩ => ⟨_, hkk p s.heap key (hr _)⟩) (fun keys h1 h2 h3 => ?_) (fun i t s' hv x' => ?_) fun D s' out cc keys xs acc hacc x' hD hDo hks hKA hperm hsort hout => ?_
  · have := hkind keys.toList s.heap (by simpa using h3) (by simpa using h1) fun i k' hk' => by
      obtain ⟨p, hp, hr⟩ := h2 i k' (by simpa using hk')
      exact ⟨p, hp, hr _⟩
    simpa using this
  · obtain ⟨pm, c1, ctv, ho, hrec, c86, c103⟩ := hL
    have hL' : LamAt s'.heap f cl qual params body scope := by
      refine ⟨pm, c1, ctv, x'.keep _ _ ho (by intro es n h; cases h) f86 f103, ?_, c86, c103⟩
      obtain ⟨c', o, us, t, e2, g, r, r2⟩ := hrec
      cases e2
      exact ⟨c1, o, us, t, rfl, x'.keep _ _ g (by intro es n h; rw [r] at h; cases h) c86 c103, r, r2⟩
    refine lam_call (n := n') (x := x) L ((R.1.le (m := n' + 3) hn).in1.in1) hL' (S₂.step x') hc1 hc2 hf (fun pm c ctv => hbind cl pm c ctv _) hx hnc hk hco hgen (rep_int.mpr ⟨_, rfl⟩) (hb i hv) fun u s'' ru xu => ⟨⟨i, by rw [List.getElem?_range hv], fun h => (hsc i).rep ru⟩, xu⟩
  · subst hout
    obtain ⟨vs, hvs⟩ : ∃ vs, acc.toList = vs := ⟨_, rfl⟩
    have hr : RepL X s.heap (iD (List.range m)) vs := hvs ▸ items_ints hacc
    have hlen : vs.length = m := by rw [← hvs]; simpa using hacc.1
    have hlp : xs.toList.Perm (keys.toList.zip vs) := by rw [← hvs, ← Array.toList_zip]; exact Array.perm_iff_toList_perm.mp hperm
    have hmem : ∀ p ∈ xs.toList, ∃ q t, p.2 = .int (q : Nat) t ∧ κ.keyOf p.1 = some (kk q) := fun p hp => by
      have hz := hlp.mem_iff.mp hp
      obtain ⟨i, hi, e⟩ := List.getElem_of_mem hz
      rw [List.getElem_zip] at e
      have hik : i < keys.size := by simp at hi; omega
      obtain ⟨q, hq, hr'⟩ := hKA i keys[i] (Array.getElem?_eq_getElem hik)
      obtain ⟨v', hv', rv'⟩ := hr.get (iD_get hq)
      obtain ⟨t, rfl⟩ := rep_int.mp rv'
      have hiv : i < vs.length := (List.getElem?_eq_some_iff.mp hv').1
      have e2 : vs[i] = .int (q : Nat) t := (List.getElem?_eq_some_iff.mp hv').2
      subst e
      exact ⟨q, t, e2, by simpa using hkk q s.heap keys[i] (hr' _)⟩
    have hun : ∀ p ∈ xs.toList, (∃ t, p.2 = .int (unV p.2 : Nat) t) ∧ κ.keyOf p.1 = some (kk (unV p.2)) := fun p hp => by
      obtain ⟨q, t, e1, e2⟩ := hmem p hp
      have : unV p.2 = q := by rw [e1]; simp [unV]
      rw [this]
      exact ⟨⟨t, e1⟩, e2⟩
    refine k ((xs.toList.map (·.2)).map unV) (.ref D) s' ?_ ?_ ?_ ((x₁.trans x₂).trans x')
    · have h1 := (hlp.map Prod.snd).map unV
      rw [List.map_snd_zip (by simp; omega), unV_map hr] at h1
      exact h1
    · rw [List.pairwise_map, List.pairwise_map, List.pairwise_iff_getElem]
      intro i j hi hj hij
      have hi' : i < xs.size := by simpa using hi
      have hj' : j < xs.size := by simpa using hj
      have := hsort i j (Nat.le_of_lt hij) hj'
      have kkE : ∀ {i} (h : i < xs.size), KK κ xs i = kk (unV xs[i].2) := fun {i} h => by
        unfold KK
        rw [Array.getElem?_eq_getElem h]
        dsimp only
        rw [(hun xs[i] (by simp)).2]; rfl
      rw [kkE hi', kkE hj'] at this
      simpa using this
    · refine rep_list.mpr ⟨D, xs.toList.map (·.2), rfl, ?_, repL_unV fun v hv => ?_⟩
      · have e2 : (xs.toList.map (·.2)).toArray = xs.map (·.2) := by
          apply Array.ext'; simp
        rw [e2]
        refine ⟨⟨_, _, hDo, rfl, rfl, rfl⟩, fun hm => ?_⟩
        obtain ⟨o, e, _⟩ := B₂.priv _ hm
        rw [hD] at e; cases e
      · obtain ⟨p, hp, rfl⟩ := List.mem_map.mp hv
        exact (hun p hp).1
end Mine

namespace Mine
variable {Γ : Cfg} {n : Nat} {env : Env} {ρ : List (Str × D)} {X : List Addr} {s₀ s : Shared} {pins : List (Addr × Obj)} {π : Pv} {A : Around} {Q : Flow → Shared → Prop} {E : Value → Shared → Prop} {rest : List Stmt}

theorem fn_introFC {name : Str} {params : Arguments} {body : List Stmt} {dl rt tp scope ts bd pos} {a : Addr} {ds : List D} {d : D} (ps : List Str) (K : Γ.Ok) (h : Defd Γ a (.FunctionDef name params body dl rt tp scope ts bd pos))
    (hb : ∀ A X s₀ env s E Q pm c doc outer, (∃ o, Γ.h.get? a = some o ∧ o.data = .func (Calls.docDef name params body scope pm (.ref c) doc)) → A.frames = some (env :: outer) → FunFr Γ s₀.heap outer → env = callEnvC (Calls.docDef name params body scope pm (.ref c) doc) s₀.heap.objs.size a → Room n A → Fm Γ X env s₀ [] [] (ps.zip ds) s → (∀ v s', Rep X s'.heap d v → Step Γ [] s₀ s' → Q (.ret v) s') →
      Go Γ A body env Q E s)
    (hlen : ps.length = ds.length := by rfl)
    (hps : ∀ pm c doc vals, vals.length = ps.length → bindArgs (Calls.docDef name params body scope pm c doc) ⟨vals, []⟩ = pure (ps.zip vals))
    (hnd : ps.Nodup := by decide) (hcn : ((cellsFrom 0 scope.names []).map (·.1)).Nodup := by decide)
    (hk : ∀ pm c doc L, ps.all (nameOk (callEnvC (Calls.docDef name params body scope pm c doc) L a) []) = true := by intro _ _ _ _; rfl)
    (hco : scope.isCoroutine = false := by rfl) (hgen : scope.isGenerator = false := by rfl) (hkind : scope.kind = .function := by rfl) : FnF Γ (n + 1) a ds d := by
  obtain ⟨pm, c, doc, o, h1, h2, h3, h4, h5, h6, h7, h8⟩ := h
  intro A X s vals R outer Rm hfr hfun B rv k
  have hv : vals.length = ps.length := by rw [hlen, rv.len]
  have hfst : (ps.zip vals).map (·.1) = ps := by rw [List.map_fst_zip]; omega
  refine codeAny_call_cells Rm.depth (B.old a o h1 h5 h6) h2 (B.lim K) (B.code h3 h7 h8) rfl (hps _ _ _ vals hv) rfl (fun x hx => ?_) (fun s₁ I => ?_) hco hgen hkind
  · have hm : x.1 ∈ ps := by rw [← hfst]; exact List.mem_map.mpr ⟨x, hx, rfl⟩
    exact nameOk.kind (List.all_eq_true.mp (hk pm (.ref c) doc s.heap.objs.size) x.1 hm)
  · generalize henv : callEnvC (Calls.docDef name params body scope pm (.ref c) doc) s.heap.objs.size a = env at I ⊢
    have x₁ : Step Γ [] s s₁ := by
      obtain ⟨h', tk, rfl⟩ := I.toInCall.same
      exact Step.of_keeps I.toInCall.keep
    have hL : s.heap.get? env.locals = none := Heap.get?_none_of_le I.toInCall.fresh
    have hC : ∀ y c, (y, c) ∈ env.cells → s.heap.get? c = none := fun y c hc => Heap.get?_none_of_le (Nat.le_of_lt (Nat.lt_of_le_of_lt I.toInCall.fresh (I.above y c hc)))
    have hcn' : (env.cells.map (·.1)).Nodup := by
      subst henv
      show ((cellsFrom _ scope.names []).map (·.1)).Nodup
      rw [cellsFrom_names scope.names _ 0 [] [] rfl]; exact hcn
    have F : Fm Γ X env s [] [] (ps.zip ds) s₁ := by
      refine ⟨B, x₁, fun I' hI => ?_, fun y c hc => ?_, I.apart, ⟨x₁.base B, ?_, _, I.toInCall.ns, fun x d hx => ?_⟩, by simp, by simp [adr], by simp⟩
      · rcases hI with rfl | ⟨y, h⟩ | h
        · exact hL
        · exact hC y I' h
        · simp [adr] at h
      · exact ⟨_, I.cell y c (lookup_of_mem hcn' hc)⟩
      · subst henv; exact ⟨rfl, rfl, hkind⟩
      · obtain ⟨v, hl, hr⟩ := zip_rep rv x d hx
        have hm : x ∈ ps := by rw [← hfst]; exact List.mem_map.mpr ⟨_, mem_of_lookup hl, rfl⟩
        refine ⟨v, x₁.rep B hr, ?_⟩
        have hkk := List.all_eq_true.mp (hk pm (.ref c) doc s.heap.objs.size) x hm
        rw [henv] at hkk
        rcases nameOk.kind hkk with hk1 | ⟨hk1, hk2⟩
        · exact .inl ⟨hk1, bindL_look hk1 (by rw [hfst]; exact hnd) hl⟩
        · obtain ⟨c', hc'⟩ := Option.isSome_iff_exists.mp hk2
          refine .inr ⟨.inl hk1, c', hc', ?_⟩
          have := I.cell x c' hc'
          rwa [bindC_look hk1 (by rw [hfst]; exact hnd) hl] at this
    have fine : FineEnv env := by subst henv; exact ⟨rfl, rfl, hgen, hco⟩
    exact (hb _ X s env s₁ _ _ pm c doc outer ⟨o, h1, h2⟩ (by show A.frames.map _ = _; rw [hfr]; rfl) hfun henv.symm (Rm.deeper fine) F fun v s' rv' x' => k v s' rv' x').run


/-! ## the law's own data -/
noncomputable def dfl : List Int := [0, 12, 10, 7, 48, 14, 7, 39]
noncomputable def nums (sc : List Int) : List Int := sc.take 8 ++ dfl.drop (sc.take 8).length
theorem nums_len (sc) : (nums sc).length = 8 := by
  unfold nums
  rw [List.length_append, List.length_drop]
  have : (sc.take 8).length ≤ 8 := by rw [List.length_take]; omega
  show _ + (8 - _) = 8
  omega
noncomputable def stopOf (ns : List Int) (k : Nat) : Nat := (((nb ns k).fdiv 7 + 5 * (k : Nat)).fmod 9).toNat
noncomputable def slashOf (ns : List Int) (k : Nat) : Nat := (((nb ns k).fdiv 5 + (k : Nat)).fmod 3).toNat
noncomputable def nmOf (ns : List Int) (ts : List (List Nat)) (k : Nat) : List Nat := tx ts (stopOf ns k) ++ List.replicate (slashOf ns k) 47
theorem fmod_range (a : Int) {k : Int} (h : 0 < k) : 0 ≤ a.fmod k ∧ a.fmod k < k := ⟨Int.fmod_nonneg_of_pos a h, Int.fmod_lt_of_pos a h⟩
theorem stopOf_cast (ns : List Int) (k : Nat) : ((stopOf ns k : Nat) : Int) = ((nb ns k).fdiv 7 + 5 * (k : Nat)).fmod 9 := Int.toNat_of_nonneg (fmod_range _ (by decide)).1
theorem stopOf_le (ns : List Int) (k : Nat) : stopOf ns k ≤ 8 := by
  have := stopOf_cast ns k
  have := (fmod_range ((nb ns k).fdiv 7 + 5 * (k : Nat)) (k := 9) (by decide)).2
  omega
theorem slashOf_cast (ns : List Int) (k : Nat) : ((slashOf ns k : Nat) : Int) = ((nb ns k).fdiv 5 + (k : Nat)).fmod 3 := Int.toNat_of_nonneg (fmod_range _ (by decide)).1
theorem slashOf_le (ns : List Int) (k : Nat) : slashOf ns k ≤ 2 := by
  have := slashOf_cast ns k
  have := (fmod_range ((nb ns k).fdiv 5 + (k : Nat)) (k := 3) (by decide)).2
  omega
noncomputable def fo (ns : List Int) : List Nat := (wlk (kids (above ns 8) (texts ns 8)) 9 0).1
noncomputable def ba (ns : List Int) : List Nat := (wlk (kids (above ns 8) (texts ns 8)) 9 0).2
noncomputable def stops (ns : List Int) : List Nat := (List.range 8).map (stopOf ns)
noncomputable def nms (ns : List Int) : List (List Nat) := (List.range 8).map (nmOf ns (texts ns 8))
noncomputable def rnk (ns : List Int) (p : Nat) : Nat := (0 :: fo ns).idxOf p
noncomputable def cmpL (x y : List (List Nat)) : Int := b2i (gtL x y) - b2i (ltL x y)
noncomputable def cmpN (a b : Nat) : Int := if a = b then 0 else if b < a then 1 else -1
end Mine

namespace Mine
variable {Γ : Cfg} {n : Nat} {env : Env} {ρ : List (Str × D)} {X : List Addr} {s₀ s : Shared} {pins : List (Addr × Obj)} {π : Pv} {A : Around} {Q : Flow → Shared → Prop} {E : Value → Shared → Prop} {rest : List Stmt}

theorem Fm.storeL {A : Around} {E : Value → Shared → Prop} {Q : Unit → Shared → Prop} {x : Str} {v : Value} {d : D} (F : Fm Γ X env s₀ pins π ρ s) (r : Rep (adr π ++ X) s.heap d v)
    (hk : env.kindOf x = some .local) (hx : ∀ p ∈ π, p.1 ≠ x)
    (k : ∀ s', Fm Γ X env s₀ pins π (put x d ρ) s' → KeepSeq s.heap s'.heap → Upd env.locals s s' → Q () s') : wpAny Γ.M A (storeName env x v) Q E s := by
  have B := F.base
  obtain ⟨m, hn, hv⟩ := F.st.vars
  refine wpAny_storeName_local hk hn (fun h' hn' hs' => ?_) (by rw [F.st.glob.2.2]; rfl)
  have u : Upd env.locals s { s with heap := h', toks := s.toks + 1 } := Upd.same hs'
  obtain ⟨o, eo, hseq, hco⟩ := obj_ns hn
  have hN : ∀ o', s.heap.get? env.locals = some o' → NotCode o' := fun o' e => by rw [eo] at e; cases e; exact hco
  have hS : KeepSeq s.heap h' := keepSeq_upd u fun o' e => by rw [eo] at e; cases e; exact hseq
  refine k _ ?_ hS u
  have hf := F.fresh _ (.inl rfl)
  have B' := B.upd u (fresh_ne F.base₀ hf) hN F.offL
  refine ⟨F.base₀, F.step.upd F.base₀ hf u hN, F.fresh, fun y c hc => ?_, F.apart, ⟨B', F.st.glob, _, hn', fun y e hy => ?_⟩, fun p hp => ?_, F.nodup, fun p hp => ?_⟩
  · obtain ⟨v', h⟩ := F.cells y c hc
    exact ⟨v', cell_upd u (Ne.symm (F.LneC h)) h⟩
  · rw [put_look] at hy
    split at hy
    · rename_i hyx
      subst hyx
      cases hy
      exact ⟨v, Rep.mono hS _ _ r, .inl ⟨hk, by simp⟩⟩
    · rename_i hyx
      obtain ⟨v', hr, hh⟩ := hv y e hy
      refine ⟨v', Rep.mono hS _ _ hr, hh.imp (fun ⟨a, b⟩ => ⟨a, by simp [hyx, b]⟩) fun ⟨a, c, b1, b2⟩ => ⟨a, c, b1, cell_upd u (Ne.symm (F.LneC b2)) b2⟩⟩
  · obtain ⟨h0, ys, h4, h5⟩ := F.priv p hp
    refine ⟨fun hne => ⟨_, hn', (let ⟨_, _, h2, _⟩ := h0 hne; h2), ?_⟩, ys, plain_upd u (fun e => ?_) h4, RepL.mono hS _ _ h5⟩
    · obtain ⟨m', h1, h2, h3⟩ := h0 hne
      have hmm : m' p.1 = m p.1 := by
        obtain ⟨o, es, ep, e, hd, _, hl⟩ := hn
        obtain ⟨o', es', ep', e', hd', _, hl'⟩ := h1
        rw [e] at e'; cases e'; rw [hd] at hd'; cases hd'
        rw [← hl, ← hl']
      rw [if_neg (hx p hp), ← hmm]; exact h3
    · exact F.offL (List.mem_append_left _ (e ▸ List.mem_map.mpr ⟨p, hp, rfl⟩))
  · obtain ⟨h1, h2, h3, h4⟩ := F.pin p hp
    exact ⟨u.at (fun e => h2 (.inl e)) h1, h2, h3, h4⟩

/-- an object that is no one's changes -/
theorem Fm.updF {s' : Shared} {I : Addr} (F : Fm Γ X env s₀ pins π ρ s) (h2 : ¬ Own env (adr π) I) (h5 : s₀.heap.get? I = none) (hp : ∀ p ∈ pins, p.1 ≠ I) (u : Upd I s s') (hN' : ∀ o', s.heap.get? I = some o' → NotCode o')
    (hq : ∀ o', s.heap.get? I = some o' → ∀ xs n, o'.data ≠ .seq xs n) (hnc : ∀ v, ¬ s.heap.IsCell I v) : Fm Γ X env s₀ pins π ρ s' := by
  obtain ⟨m, hn, hv⟩ := F.st.vars
  have hS : KeepSeq s.heap s'.heap := keepSeq_upd u hq
  have hX : I ∉ adr π ++ X := fun hm => by
    rcases List.mem_append.mp hm with h | h
    · exact h2 (.inr (.inr h))
    · obtain ⟨o, e, _⟩ := F.base₀.priv _ h
      rw [h5] at e; cases e
  have hL : env.locals ≠ I := fun e => h2 (.inl e.symm)
  have hC : ∀ y c, (y, c) ∈ env.cells → c ≠ I := fun y c hc e => h2 (.inr (.inl ⟨y, e ▸ hc⟩))
  refine ⟨F.base₀, F.step.upd F.base₀ h5 u hN', F.fresh, fun y c hc => ?_, F.apart, ⟨F.base.upd u (fresh_ne F.base₀ h5) hN' hX, F.st.glob, m, ns_upd u hL hn, fun y e hy => ?_⟩, fun p hp => ?_, F.nodup, fun p hp' => ?_⟩
  · obtain ⟨v, h⟩ := F.cells y c hc
    exact ⟨v, cell_upd u (hC y c hc) h⟩
  · obtain ⟨v', hr, hh⟩ := hv y e hy
    exact ⟨v', Rep.mono hS _ _ hr, hh.imp id fun ⟨a, c2, b1, b2⟩ => ⟨a, c2, b1, cell_upd u (by rintro rfl; exact hnc _ b2) b2⟩⟩
  · obtain ⟨g0, ys, g4, g5⟩ := F.priv p hp
    refine ⟨fun hne => let ⟨m', g1, g2, g3⟩ := g0 hne; ⟨m', ns_upd u hL g1, g2, g3⟩, ys, plain_upd u (fun e => ?_) g4, RepL.mono hS _ _ g5⟩
    exact h2 (.inr (.inr (e ▸ List.mem_map.mpr ⟨p, hp, rfl⟩)))
  · obtain ⟨g1, g⟩ := F.pin p hp'
    exact ⟨u.at (hp p hp') g1, g⟩

/-- x = [..] where the store is swapped with the clearing of the variables -/
theorem x_comp {y : Str} {py spos : Pos} {elt iter : Expr} {x : Str} {px : Pos} {ifs : List Expr} {scope : Scope} {pos : Pos} {ds : List D} (p : D → Bool) (f : D → D) (R : Room n A) (F : Fm Γ X env s₀ pins [] ρ s)
    (hi : EvI Γ n env ρ iter ds)
    (ht : ∀ C cl, ∀ d ∈ ds, Tests Γ n (compEnvC scope cl C env) ((x, d) :: cρ scope ρ) ifs (p d))
    (he : ∀ C cl, ∀ d ∈ ds, p d = true → Ev Γ n (compEnvC scope cl C env) ((x, d) :: cρ scope ρ) elt (f d))
    (hsz : ds.length ≤ 1000)
    (k : ∀ s', Fm Γ X env s₀ pins [] (put y (.list ((ds.filter p).map f)) ρ) s' → Go Γ A rest env Q E s')
    (hky : env.kindOf y = some .local := by rfl) (hk : scope.kind = .function := by rfl) (hf : freeOk env ρ scope = true := by rfl)
    (hnames : ∀ y ∈ scope.names, y.2 = .local → scope.names.lookup y.1 = some .local := by decide)
    (hx : scope.names.lookup x = some .local ∨ ((x, NameKind.cell) ∈ scope.names ∧ scope.names.lookup x = some .cell) := by decide)
    (hcell : ∀ y ∈ scope.names, y.2 = .cell → y.1 = x := by decide)
    (hs : ∀ x, foldedSetIterable iter env x = pure x := by intro _; rfl)
    (hsw : swapsWith (.ListComp elt [⟨.Name x px, iter, ifs, 0⟩] scope pos) (some (.Name y py)) spos.line env = pure true := by rfl) :
    Go Γ A (.Assign [.Name y py] (.ListComp elt [⟨.Name x px, iter, ifs, 0⟩] scope pos) spos :: rest) env Q E s := by
  refine Go.cons ?_
  rw [exec_Assign_Name_used _ _ _ _ hsw]
  refine wpAny_bind (wpAny_standAt (wpAny_bind ?_))
  show wpAny _ A (do let _ ← comprehension (.ListComp elt [⟨.Name x px, iter, ifs, 0⟩] scope pos) scope env (firstIterPos [⟨.Name x px, iter, ifs, 0⟩] pos) (newList []) false (eval iter env) (some (assign (.Name y py) env))) _ _ s
  refine wpAny_bind (wp_comp (use := some (assign (.Name y py) env)) p f R F.st hi hk hf hnames hx hcell ht he hsz hs fun Da C s' m' ys hD hC hDC xs hDl hr hN => ?_)
  show wpAny _ A (assign (.Name y py) env (.ref Da)) _ E s'
  have F' := F.go xs
  have r : Rep (adr [] ++ X) s'.heap (.list ((ds.filter p).map f)) (.ref Da) := by
    refine rep_list.mpr ⟨Da, ys.toList, rfl, ?_, RepL.sub (fun a ha => List.mem_cons_of_mem _ ha) _ _ hr⟩
    have : ys.toList.toArray = ys := by simp
    rw [this]
    refine plain_LO hDl fun hm => ?_
    obtain ⟨o, e, _⟩ := F.st.base.priv _ hm
    rw [hD] at e; cases e
  refine PyProof.Rows.assign_Name (F'.storeL r hky (by simp) fun s₂ F₂ hS u₂ => ?_)
  have hCL : C ≠ env.locals := fun e => by
    obtain ⟨m₁, ⟨o, es, ep, e1, _⟩, _⟩ := F.st.vars
    rw [← e, hC] at e1; cases e1
  obtain ⟨oC, eC, hCs, hCn⟩ := obj_ns hN
  have hN₂ : s₂.heap.Ns C m' := by
    obtain ⟨o, es, ep, e1, r⟩ := hN
    exact ⟨o, es, ep, u₂.at hCL e1, r⟩
  refine ⟨m', hN₂, fun h' hs' => ?_⟩
  have u : Upd C s₂ { s₂ with heap := h' } := Upd.same (tk := s₂.toks) hs'
  have hC0 : s₀.heap.get? C = none := fresh_back F.step F.base₀ hC
  obtain ⟨o₂, e₂, hs₂, hn₂⟩ := obj_ns hN₂
  refine wpAny_pure (wpAny_pure (k _ (F₂.updF (fun ho => ?_) hC0 (fun p hp e => ?_) u (fun o' e => by rw [e₂] at e; cases e; exact hn₂) (fun o' e => by rw [e₂] at e; cases e; exact hs₂) (fun v hc => ?_))))
  · rcases ho with h | ⟨y', h⟩ | h
    · exact hCL h
    · obtain ⟨v, oc, ec, _⟩ := F.cells y' C h
      rw [hC] at ec; cases ec
    · simp [adr] at h
  · have := (F.pin p hp).1
    rw [e, hC] at this; cases this
  · obtain ⟨oc, ec, hd⟩ := hc
    obtain ⟨o, es, ep, e1, hd', _⟩ := hN₂
    rw [e1] at ec; cases ec
    rw [hd'] at hd; cases hd
end Mine

namespace Mine
variable {Γ : Cfg} {n : Nat} {env : Env} {ρ : List (Str × D)} {X : List Addr} {s₀ s : Shared} {pins : List (Addr × Obj)} {π : Pv} {A : Around} {Q : Flow → Shared → Prop} {E : Value → Shared → Prop} {rest : List Stmt}

theorem turn_in (x y : Str) (elt iter iter' : Expr) (px py : Pos) (scope : Scope) (pos : Pos) (it acc : Value) (env : Env) :
    compTurn (.ListComp elt [⟨.Name x px, iter, [], 0⟩, ⟨.Name y py, iter', [], 0⟩] scope pos) 1 it acc env = (do
      standAt iter'.pos
      match ← pyNext it with
      | none => pure (.done .next)
      | some v =>
        assign (.Name y py) env v
        (do let _ ← call (.builtin "list.append") [acc, ← eval elt env])
        again (.compLoop (.ListComp elt [⟨.Name x px, iter, [], 0⟩, ⟨.Name y py, iter', [], 0⟩] scope pos) 1 it acc env)) := by rfl
theorem turn_out (x y : Str) (elt iter iter' : Expr) (px py : Pos) (scope : Scope) (pos : Pos) (it acc : Value) (env : Env) :
    compTurn (.ListComp elt [⟨.Name x px, iter, [], 0⟩, ⟨.Name y py, iter', [], 0⟩] scope pos) 0 it acc env = (do
      standAt iter.pos
      match ← pyNext it with
      | none => pure (.done .next)
      | some v =>
        assign (.Name x px) env v
        let x' ← eval iter' env
        standAt iter'.pos
        let x' ← foldedSetIterable iter' env x'
        let _ ← runOwn (.compStart (.ListComp elt [⟨.Name x px, iter, [], 0⟩, ⟨.Name y py, iter', [], 0⟩] scope pos) 1 (← holding [x'] (pyIter x')) acc env) env
        again (.compLoop (.ListComp elt [⟨.Name x px, iter, [], 0⟩, ⟨.Name y py, iter', [], 0⟩] scope pos) 0 it acc env)) := by rfl
end Mine

namespace Mine
variable {Γ : Cfg} {n : Nat} {env : Env} {ρ : List (Str × D)} {X : List Addr} {s₀ s : Shared} {pins : List (Addr × Obj)} {π : Pv} {A : Around} {Q : Flow → Shared → Prop} {E : Value → Shared → Prop} {rest : List Stmt}

theorem wpAny_of_turn {α : Type} {M : Model} {t t' : Sem α} {Q : α → Shared → Prop} {E : Value → Shared → Prop} (e : t = t') (h : wpAny M A t' Q E s) : wpAny M A t Q E s := e ▸ h

theorem inner_loop {R : Result → Shared → Prop} {s₁ s : Shared} {x y : Str} {iter iter' : Expr} {px py pe : Pos} {scope : Scope} {pos : Pos} {I Da C : Addr} {cl : List (Str × Addr)} {ds pre : List D} {P : Nat → Shared → Prop} {m : Str → Option Value} {ys₀ : Array Value}
    (RA : Room n A) (B₁ : Base Γ X s₁.heap) (x₁ : Step Γ [] s₁ s) (it : Iter Γ n X s₁ I ds P) (hP : P 0 s) (hk : scope.kind = .function)
    (hD : s.heap.PlainList Da ys₀) (hr : RepL (Da :: X) s.heap pre ys₀.toList) (hDf : s₁.heap.get? Da = none) (hCf : s₁.heap.get? C = none) (hN : s.heap.Ns C m) (hID : I ≠ Da) (hIC : I ≠ C)
    (hy : scope.names.lookup y = some .local) (hyd : (y == ("__debug__" : Str)) = false) (hsz : pre.length + ds.length ≤ 1000)
    (hR : ∀ s' m' ys, Step Γ [] s₁ s' → s'.heap.PlainList Da ys → RepL (Da :: X) s'.heap (pre ++ ds) ys.toList → s'.heap.Ns C m' → (∀ b o, b ≠ I → b ≠ Da → b ≠ C → s.heap.get? b = some o → s'.heap.get? b = some o) → R (.ok .next) s') :
    codeAny Γ.M A (.compLoop (.ListComp (.Name y pe) [⟨.Name x px, iter, [], 0⟩, ⟨.Name y py, iter', [], 0⟩] scope pos) 1 (.ref I) (.ref Da) (compEnvC scope cl C env)) R s := by
  refine codeAny_loop rfl (fun k s' => ∃ j m' ys, j ≤ ds.length ∧ k = ds.length + 1 - j ∧ P j s' ∧ Step Γ [] s₁ s' ∧ s'.heap.PlainList Da ys ∧ RepL (Da :: X) s'.heap (pre ++ ds.take j) ys.toList ∧ s'.heap.Ns C m' ∧
      (∀ b o, b ≠ I → b ≠ Da → b ≠ C → s.heap.get? b = some o → s'.heap.get? b = some o)) ?_ (ds.length + 1) ⟨0, m, ys₀, Nat.zero_le _, rfl, hP, x₁, hD, by simpa using hr, hN, fun b o _ _ _ e => e⟩
  intro k s' hI
  refine via fun G ret => ?_
  obtain ⟨j, m', ys, hj, rfl, hP', xs, hD', hr', hN', hkeep⟩ := hI
  have hCD : C ≠ Da := by
    rintro rfl
    obtain ⟨o, es, ep, e1, e2, _⟩ := hN'
    obtain ⟨n', e3⟩ := hD'
    rw [e1] at e3; cases e3; cases e2
  obtain ⟨oI, vI, hoI, hdI, hIc⟩ := it.there _ _ hP'
  have hIs : ∀ o, s'.heap.get? I = some o → ∀ xs n, o.data ≠ .seq xs n := fun o e xs n q => by
    rw [hoI] at e; cases e; rw [hdI] at q; cases q
  have hIn : ∀ o, s'.heap.get? I = some o → NotCode o := fun o e => by rw [hoI] at e; cases e; exact hIc
  cases hd : ds[j]? with
  | none =>
    have hjl : j = ds.length := Nat.le_antisymm hj (List.getElem?_eq_none_iff.mp hd)
    subst hjl
    refine ret ?_
    clear ret
    show wpAny _ A ((compTurn _ 1 (.ref I) (.ref Da) (compEnvC scope cl C env)).onRaise (fun x => do noteFrame x (compEnvC scope cl C env); theTreesLotGoes x)) _ _ s'
    refine wpAny_noted (wpAny_of_turn (turn_in ..) ?_)
    refine wpAny_bind (wpAny_standAt (wpAny_bind ?_))
    refine it.stop A s' _ _ RA hP' xs fun s'' u => ?_
    have xs' : Step Γ [] s₁ s'' := xs.upd B₁ it.fresh u hIn
    refine wpAny_pure (hR s'' m' ys xs' (plain_upd u (Ne.symm hID) hD') ?_ (ns_upd u (Ne.symm hIC) hN') fun b o h1 h2 h3 e => u.at h1 (hkeep b o h1 h2 h3 e))
    rw [List.take_of_length_le (Nat.le_refl _)] at hr'
    exact RepL.mono (keepSeq_upd u hIs) _ _ hr'
  | some d =>
    have hjl : j < ds.length := (List.getElem?_eq_some_iff.mp hd).1
    refine ret ?_
    clear ret
    show wpAny _ A ((compTurn _ 1 (.ref I) (.ref Da) (compEnvC scope cl C env)).onRaise (fun x => do noteFrame x (compEnvC scope cl C env); theTreesLotGoes x)) _ _ s'
    refine wpAny_noted (wpAny_of_turn (turn_in ..) ?_)
    refine wpAny_bind (wpAny_standAt (wpAny_bind ?_))
    refine it.next A j s' _ _ d RA hP' xs hd fun v s₂ rv hP₂ u => ?_
    have xs₂ : Step Γ [] s₁ s₂ := xs.upd B₁ it.fresh u hIn
    have hD₂ := plain_upd u (Ne.symm hID) hD'
    have hN₂ := ns_upd u (Ne.symm hIC) hN'
    have hr₂ := RepL.mono (keepSeq_upd u hIs) _ _ hr'
    refine wpAny_bind (wpAny_assign_Name (wpAny_storeName_local (kind_local hy (by decide)) hN₂ (fun h₃ hn₃ hs₃ => ?_) (by show (scope.kind == .class || (scope.kind == .module && _)) = false; rw [hk]; rfl)))
    have u₃ : Upd C s₂ { s₂ with heap := h₃, toks := s₂.toks + 1 } := Upd.same hs₃
    obtain ⟨oC, eC, hCs, hCn⟩ := obj_ns hN₂
    have x₃ : Step Γ [] s₁ { s₂ with heap := h₃, toks := s₂.toks + 1 } := xs₂.upd B₁ hCf u₃ fun o e => by rw [eC] at e; cases e; exact hCn
    have hD₃ := plain_upd u₃ (Ne.symm hCD) hD₂
    have hr₃ := RepL.mono (keepSeq_upd u₃ fun o e => by rw [eC] at e; cases e; exact hCs) _ _ hr₂
    have rd : Rep (Da :: X) h₃ d v := Rep.mono (x₃.keepSeq B₁) d v (Rep.priv hDf d v rv)
    refine wpAny_bind (wpAny_bind (wpAny_Name (wpAny_loadName_local hk (kind_local hy (by decide)) hn₃ (v := v) (by simp) ?_) hyd))
    have hlen := hr₃.len
    refine wpAny_bind (wpAny_list_append_plain hD₃ (fun h₆ hl₆ hs₆ => ?_) (size_fit hlen (by rw [List.length_append, List.length_take]; exact Nat.le_trans (Nat.add_le_add_left (Nat.min_le_right _ _) _) hsz)))
    obtain ⟨oD, eoD, _, hDc⟩ := obj_seq hD₃
    have u₆ : Upd Da { s₂ with heap := h₃, toks := s₂.toks + 1 } { s₂ with heap := h₆, toks := s₂.toks + 1 } := Upd.same (tk := s₂.toks + 1) hs₆
    have xs₆ : Step Γ [] s₁ { s₂ with heap := h₆, toks := s₂.toks + 1 } := x₃.upd B₁ hDf u₆ fun o e => by rw [eoD] at e; cases e; exact hDc
    refine wpAny_pure (wpAny_pure ⟨rfl, ds.length + 1 - (j + 1), turn_lt hjl, j + 1, _, ys.push v, hjl, rfl, ?_, xs₆, hl₆, ?_, ns_upd u₆ hCD hn₃, fun b o h1 h2 h3 e => u₆.at h2 (u₃.at h3 (u.at h1 (hkeep b o h1 h2 h3 e)))⟩)
    · exact it.keep _ _ _ hP₂ xs₂ xs₆ fun o e => u₆.at hID (u₃.at hIC e)
    · rw [mem_take_succ hd, ← List.append_assoc]
      have hin : Da ∈ Da :: X := List.mem_cons_self
      have := (RepL.upd u₆ hin _ _ hr₃).append (repL_cons.mpr ⟨v, [], rfl, Rep.upd u₆ hin _ _ rd, repL_nil.mpr rfl⟩)
      simpa using this
end Mine

namespace Mine
variable {Γ : Cfg} {n : Nat} {env : Env} {ρ : List (Str × D)} {X : List Addr} {s₀ s : Shared} {pins : List (Addr × Obj)} {π : Pv} {A : Around} {Q : Flow → Shared → Prop} {E : Value → Shared → Prop} {rest : List Stmt}

theorem start_in {R : Result → Shared → Prop} {x y : Str} {elt iter iter' : Expr} {px py : Pos} {scope : Scope} {pos : Pos} {it acc : Value}
    (h0 : codeAny Γ.M A (.compLoop (.ListComp elt [⟨.Name x px, iter, [], 0⟩, ⟨.Name y py, iter', [], 0⟩] scope pos) 1 it acc env) R s)
    (h : wpAny Γ.M A (pyIter it) (fun it' s' => codeAny Γ.M A (.compLoop (.ListComp elt [⟨.Name x px, iter, [], 0⟩, ⟨.Name y py, iter', [], 0⟩] scope pos) 1 it' acc env) R s')
      (notedBy Γ.M A env fun x s' => R (.error x) s') s) :
    codeAny Γ.M A (.compStart (.ListComp elt [⟨.Name x px, iter, [], 0⟩, ⟨.Name y py, iter', [], 0⟩] scope pos) 1 it acc env) R s := by
  refine codeAny_of_tree ?_
  show wpAny _ _ ((compStart (.ListComp elt [⟨.Name x px, iter, [], 0⟩, ⟨.Name y py, iter', [], 0⟩] scope pos) 1 it acc env).onRaise (fun x => do noteFrame x env; standAt theWindowsPlace)) _ _ s
  refine wpAny_notedAt ?_
  unfold compStart
  show wpAny _ _ (ask >>= _) _ _ s
  refine wpAny_bind (wpAny_askSetting (wpAny_ite ?_))
  split
  · first
      | exact wpAny_bind (wpAny_pure (wpAny_pure (And.intro rfl h0)))
      | exact wpAny_pure (And.intro rfl h0)
  · first
      | exact wpAny_bind (wpAny_rule (wpAny_bind (wpAny_standAt (wpAny_bind (wpAny_mono h (fun it' s' h' => wpAny_pure (And.intro rfl h')) fun _ _ x => x)))))
      | (refine wpAny_bind (wpAny_rule ?_); show wpAny _ _ (standAt iter'.pos >>= _) _ _ s; exact wpAny_bind (wpAny_standAt (wpAny_bind (wpAny_mono h (fun it' s' h' => wpAny_pure (And.intro rfl h')) fun _ _ x => x))))
end Mine

namespace Mine
variable {Γ : Cfg} {n : Nat} {env : Env} {ρ : List (Str × D)} {X : List Addr} {s₀ s : Shared} {pins : List (Addr × Obj)} {π : Pv} {A : Around} {Q : Flow → Shared → Prop} {E : Value → Shared → Prop} {rest : List Stmt}

theorem outer_loop {R : Result → Shared → Prop} {s₁ s : Shared} {x y : Str} {iter : Expr} {px py pe pi : Pos} {scope : Scope} {pos : Pos} {I Da C : Addr} {cl : List (Str × Addr)} {dss : List (List D)} {P : Nat → Shared → Prop} {m : Str → Option Value}
    (RA : Room n A) (h3 : 3 ≤ n) (B₁ : Base Γ X s₁.heap) (x₁ : Step Γ [] s₁ s) (it : Iter Γ n X s₁ I (dss.map .list) P) (hP : P 0 s) (hk : scope.kind = .function)
    (hD : s.heap.PlainList Da #[]) (hDf : s₁.heap.get? Da = none) (hCf : s₁.heap.get? C = none) (hN : s.heap.Ns C m) (hID : I ≠ Da) (hIC : I ≠ C)
    (hx : scope.names.lookup x = some .local) (hxd : (x == ("__debug__" : Str)) = false) (hy : scope.names.lookup y = some .local) (hyd : (y == ("__debug__" : Str)) = false) (hsz : dss.flatten.length ≤ 1000)
    (hR : ∀ s' m' ys, Step Γ [] s₁ s' → s'.heap.PlainList Da ys → RepL (Da :: X) s'.heap dss.flatten ys.toList → s'.heap.Ns C m' → R (.ok .next) s') :
    codeAny Γ.M A (.compLoop (.ListComp (.Name y pe) [⟨.Name x px, iter, [], 0⟩, ⟨.Name y py, .Name x pi, [], 0⟩] scope pos) 0 (.ref I) (.ref Da) (compEnvC scope cl C env)) R s := by
  refine codeAny_loop rfl (fun k s' => ∃ j m' ys, j ≤ dss.length ∧ k = dss.length + 1 - j ∧ P j s' ∧ Step Γ [] s₁ s' ∧ s'.heap.PlainList Da ys ∧ RepL (Da :: X) s'.heap (dss.take j).flatten ys.toList ∧ s'.heap.Ns C m') ?_ (dss.length + 1)
    ⟨0, m, #[], Nat.zero_le _, rfl, hP, x₁, hD, by simpa using repL_nil.mpr rfl, hN⟩
  intro k s' hI
  refine via fun G ret => ?_
  obtain ⟨j, m', ys, hj, rfl, hP', xs, hD', hr', hN'⟩ := hI
  have hCD : C ≠ Da := by
    rintro rfl
    obtain ⟨o, es, ep, e1, e2, _⟩ := hN'
    obtain ⟨n', e3⟩ := hD'
    rw [e1] at e3; cases e3; cases e2
  obtain ⟨oI, vI, hoI, hdI, hIc⟩ := it.there _ _ hP'
  have hIs : ∀ o, s'.heap.get? I = some o → ∀ xs n, o.data ≠ .seq xs n := fun o e xs n q => by
    rw [hoI] at e; cases e; rw [hdI] at q; cases q
  have hIn : ∀ o, s'.heap.get? I = some o → NotCode o := fun o e => by rw [hoI] at e; cases e; exact hIc
  cases hd : dss[j]? with
  | none =>
    have hjl : j = dss.length := Nat.le_antisymm hj (List.getElem?_eq_none_iff.mp hd)
    subst hjl
    refine ret ?_
    clear ret
    show wpAny _ A ((compTurn _ 0 (.ref I) (.ref Da) (compEnvC scope cl C env)).onRaise (fun x => do noteFrame x (compEnvC scope cl C env); theTreesLotGoes x)) _ _ s'
    refine wpAny_noted (wpAny_of_turn (turn_out ..) ?_)
    refine wpAny_bind (wpAny_standAt (wpAny_bind ?_))
    refine it.stop A s' _ _ RA (by simpa using hP') xs fun s'' u => ?_
    have xs' : Step Γ [] s₁ s'' := xs.upd B₁ it.fresh u hIn
    refine wpAny_pure (hR s'' m' ys xs' (plain_upd u (Ne.symm hID) hD') ?_ (ns_upd u (Ne.symm hIC) hN'))
    rw [List.take_of_length_le (Nat.le_refl _)] at hr'
    exact RepL.mono (keepSeq_upd u hIs) _ _ hr'
  | some l =>
    have hjl : j < dss.length := (List.getElem?_eq_some_iff.mp hd).1
    refine ret ?_
    clear ret
    show wpAny _ A ((compTurn _ 0 (.ref I) (.ref Da) (compEnvC scope cl C env)).onRaise (fun x => do noteFrame x (compEnvC scope cl C env); theTreesLotGoes x)) _ _ s'
    refine wpAny_noted (wpAny_of_turn (turn_out ..) ?_)
    refine wpAny_bind (wpAny_standAt (wpAny_bind ?_))
    refine it.next A j s' _ _ (.list l) RA hP' xs (by simp [hd]) fun v s₂ rv hP₂ u => ?_
    have xs₂ : Step Γ [] s₁ s₂ := xs.upd B₁ it.fresh u hIn
    have hD₂ := plain_upd u (Ne.symm hID) hD'
    have hN₂ := ns_upd u (Ne.symm hIC) hN'
    have hr₂ := RepL.mono (keepSeq_upd u hIs) _ _ hr'
    refine via fun G ret => ?_
    obtain ⟨a, vs, rfl, hLO, hrl⟩ := rep_list.mp rv
    refine ret ?_
    clear ret
    refine wpAny_bind (wpAny_assign_Name (wpAny_storeName_local (kind_local hx (by decide)) hN₂ (fun h₃ hn₃ hs₃ => ?_) (by show (scope.kind == .class || (scope.kind == .module && _)) = false; rw [hk]; rfl)))
    have u₃ : Upd C s₂ { s₂ with heap := h₃, toks := s₂.toks + 1 } := Upd.same hs₃
    obtain ⟨oC, eC, hCs, hCn⟩ := obj_ns hN₂
    have x₃ : Step Γ [] s₁ { s₂ with heap := h₃, toks := s₂.toks + 1 } := xs₂.upd B₁ hCf u₃ fun o e => by rw [eC] at e; cases e; exact hCn
    have hD₃ := plain_upd u₃ (Ne.symm hCD) hD₂
    have hr₃ := RepL.mono (keepSeq_upd u₃ fun o e => by rw [eC] at e; cases e; exact hCs) _ _ hr₂
    have hP₃ := it.keep _ _ _ hP₂ xs₂ x₃ fun o e => u₃.at hIC e
    refine wpAny_bind (wpAny_Name (wpAny_loadName_local hk (kind_local hx (by decide)) hn₃ (v := .ref a) (by simp) ?_) hxd)
    refine wpAny_bind (wpAny_standAt ?_)
    refine wpAny_bind (wpAny_pure (wpAny_bind (wpAny_holding ?_)))
    have rv₃ := x₃.rep B₁ rv
    obtain ⟨a', vs', e, hLO₃, _⟩ := rep_list.mp rv₃
    cases e
    refine wpAny_pyIter_list hLO₃.isList ?_
    have none₃ : h₃.get? h₃.objs.size = none := Heap.get?_none_of_le (Nat.le_refl _)
    have hI₁ : s₁.heap.get? h₃.objs.size = none := fresh_back x₃ B₁ none₃
    have it' := listIter h3 B₁ hLO.obj hrl h₃.objs.size hI₁
    have up : ∀ {o : Obj} b o', h₃.get? b = some o' → (h₃.push o).get? b = some o' := fun b o' e => Heap.get?_push_of_some _ e
    have x₄ : Step Γ [] s₁ { s₂ with heap := h₃.push { cls := .type "list_iterator", data := .fields #[.ref a, .int 0 0] }, toks := s₂.toks + 1 } := x₃.trans (Step.of_keeps (tk := s₂.toks + 1) up)
    have ne₃ : ∀ b, (h₃.get? b).isSome → h₃.objs.size ≠ b := fun b hb e => by rw [← e, none₃] at hb; cases hb
    obtain ⟨oC₃, eC₃, _⟩ := obj_ns hn₃
    obtain ⟨nD, eD⟩ := hD₃
    obtain ⟨oI₃, _, eI₃, _⟩ := it.there _ _ hP₃
    refine wpAny_bind (wpAny_runOwn ?_)
    have fin : ∀ R', (∀ s' m' ys', Step Γ [] s₁ s' → s'.heap.PlainList Da ys' → RepL (Da :: X) s'.heap ((dss.take j).flatten ++ l) ys'.toList → s'.heap.Ns C m' → (∀ b o, b ≠ h₃.objs.size → b ≠ Da → b ≠ C → (h₃.push { cls := .type "list_iterator", data := .fields #[.ref a, .int 0 0] }).get? b = some o → s'.heap.get? b = some o) → R' (.ok .next) s') →
        codeAny Γ.M A (.compLoop (.ListComp (.Name y pe) [⟨.Name x px, iter, [], 0⟩, ⟨.Name y py, .Name x pi, [], 0⟩] scope pos) 1 (.ref h₃.objs.size) (.ref Da) (compEnvC scope cl C env)) R' { s₂ with heap := h₃.push { cls := .type "list_iterator", data := .fields #[.ref a, .int 0 0] }, toks := s₂.toks + 1 } := fun R' hR' => by
      refine inner_loop (s := { s₂ with heap := h₃.push { cls := .type "list_iterator", data := .fields #[.ref a, .int 0 0] }, toks := s₂.toks + 1 }) RA B₁ x₄ it' ⟨_, Heap.get?_push_size _ rfl, rfl, rfl⟩ hk ⟨nD, up _ _ eD⟩ (RepL.mono (fun b o e _ => ⟨o.slots, up b o e⟩) _ _ hr₃) hDf hCf (hn₃.keeps up) (ne₃ _ (by rw [eD]; rfl)) (ne₃ C (by have eC₃ : h₃.get? C = some oC₃ := eC₃; rw [eC₃]; rfl)) hy hyd ?_ hR'
      have hsp : dss.flatten = (dss.take j).flatten ++ (l ++ (dss.drop (j + 1)).flatten) := by
        rw [← List.flatten_cons, ← List.flatten_append]
        congr 1
        have := List.take_append_drop j dss
        rw [List.drop_eq_getElem_cons hjl] at this
        rw [show l = dss[j] from by rw [List.getElem?_eq_getElem hjl] at hd; exact (Option.some.inj hd).symm]
        exact this.symm
      rw [hsp] at hsz
      simp only [List.length_append] at hsz
      omega
    have done : ∀ s' m' ys', Step Γ [] s₁ s' → s'.heap.PlainList Da ys' → RepL (Da :: X) s'.heap ((dss.take j).flatten ++ l) ys'.toList → s'.heap.Ns C m' → (∀ b o, b ≠ h₃.objs.size → b ≠ Da → b ≠ C → (h₃.push { cls := .type "list_iterator", data := .fields #[.ref a, .int 0 0] }).get? b = some o → s'.heap.get? b = some o) →
        ∃ m, m < dss.length + 1 - j ∧ ∃ j m' ys, j ≤ dss.length ∧ m = dss.length + 1 - j ∧ P j s' ∧ Step Γ [] s₁ s' ∧ s'.heap.PlainList Da ys ∧ RepL (Da :: X) s'.heap (dss.take j).flatten ys.toList ∧ s'.heap.Ns C m' := fun s' m' ys' q1 q2 q3 q4 q5 => by
      refine ⟨dss.length + 1 - (j + 1), turn_lt hjl, j + 1, m', ys', hjl, rfl, it.keep _ _ _ hP₃ x₃ q1 fun o e => q5 I o (Ne.symm (ne₃ I (by rw [e]; rfl))) hID hIC (up I o e), q1, q2, ?_, q4⟩
      rw [mem_take_succ hd, List.flatten_append]
      simpa using q3
    refine start_in (Γ := Γ) (A := A.mark none) (fin _ fun s' m' ys' q1 q2 q3 q4 q5 => ?_) (wpAny_pyIter_listiter ⟨_, Heap.get?_push_size _ rfl, rfl, rfl⟩ (fin _ fun s' m' ys' q1 q2 q3 q4 q5 => ?_))
    · exact wpAny_pure ⟨rfl, done _ _ _ q1 q2 q3 q4 q5⟩
    · exact wpAny_pure ⟨rfl, done _ _ _ q1 q2 q3 q4 q5⟩
end Mine

namespace Mine
variable {Γ : Cfg} {n : Nat} {env : Env} {ρ : List (Str × D)} {X : List Addr} {s₀ s : Shared} {pins : List (Addr × Obj)} {π : Pv} {A : Around} {Q : Flow → Shared → Prop} {E : Value → Shared → Prop} {rest : List Stmt}

/-- [y for x in e for y in x] -/
theorem ev_comp2 {iter : Expr} {x y : Str} {px py pe pi : Pos} {scope : Scope} {pos : Pos} {dss : List (List D)} (h3 : 3 ≤ n)
    (hi : EvI Γ n env ρ iter (dss.map .list)) (hk : scope.kind = .function) (hf : freeOk env ρ scope = true)
    (hnames : ∀ y ∈ scope.names, y.2 = .local → scope.names.lookup y.1 = some .local)
    (hx : scope.names.lookup x = some .local) (hxd : (x == ("__debug__" : Str)) = false) (hy : scope.names.lookup y = some .local) (hyd : (y == ("__debug__" : Str)) = false)
    (hsz : dss.flatten.length ≤ 1000)
    (hs : ∀ x, foldedSetIterable iter env x = pure x := by intro _; rfl) :
    Ev Γ n env ρ (.ListComp (.Name y pe) [⟨.Name x px, iter, [], 0⟩, ⟨.Name y py, .Name x pi, [], 0⟩] scope pos) (.list dss.flatten) := fun A X s Q E R S k => by
  rw [eval_ListComp]
  obtain ⟨cl₀, hclos, hsub, hfr⟩ := closureFor_ok S hf
  refine wpAny_comprehension_free rfl hs hclos hk hnames (hi A X s _ E R S fun xv s₁ x₁ kk => kk _ _ fun I P s₂ it hP x₂ => ?_)
  have S₁ := S.step x₁
  have B₂ := x₂.base S₁.base
  refine wpAny_newObj_type (wp_compEnv ?_)
  dsimp only
  obtain ⟨oI, vI, hoI, _, _⟩ := it.there _ _ hP
  have hIlt := Heap.lt_size hoI
  generalize hH : s₂.heap.push { cls := .type "list", dict := none, data := .seq ([] : List Value).toArray } = H
  have hC : H.objs.size = s₂.heap.objs.size + 1 := by rw [← hH, Heap.size_push]
  have hCle : s₂.heap.objs.size ≤ H.objs.size := by rw [hC]; exact Nat.le_succ _
  have up1 : ∀ b o, s₂.heap.get? b = some o → H.get? b = some o := fun b o e => hH ▸ Heap.get?_push_of_some _ e
  have up2 : ∀ b o, H.get? b = some o → (pushCells (H.push { cls := .type "dict", data := .dict #[] }) scope.names).get? b = some o := fun b o e => pushCells_keeps _ _ b o (Heap.get?_push_of_some _ e)
  have x₃ : Step Γ [] s₂ { s₂ with heap := pushCells (H.push { cls := .type "dict", data := .dict #[] }) scope.names } := Step.of_keeps (tk := s₂.toks) fun b o e => up2 b o (up1 b o e)
  have xx := x₂.trans x₃
  have none₂ : ∀ a, s₂.heap.objs.size ≤ a → s₂.heap.get? a = none := fun a ha => Heap.get?_none_of_le ha
  have fr₁ : ∀ a, s₂.heap.objs.size ≤ a → s₁.heap.get? a = none := fun a ha => fresh_back x₂ S₁.base (none₂ a ha)
  have fr₀ : ∀ a, s₂.heap.objs.size ≤ a → s.heap.get? a = none := fun a ha => fresh_back x₁ S.base (fr₁ a ha)
  have hDl : (pushCells (H.push { cls := .type "dict", data := .dict #[] }) scope.names).PlainList s₂.heap.objs.size #[] :=
    ⟨0, up2 _ _ (hH ▸ Heap.get?_push_size _ rfl)⟩
  have hNs : (pushCells (H.push { cls := .type "dict", data := .dict #[] }) scope.names).Ns H.objs.size (fun _ => none) := (Heap.Ns.new H (.type "dict")).keeps (pushCells_keeps _ _)
  have hDC : s₂.heap.objs.size ≠ H.objs.size := Nat.ne_of_lt (by rw [hC]; exact Nat.lt_succ_self _)
  have loop : codeAny Γ.M A (.compLoop (.ListComp (.Name y pe) [⟨.Name x px, iter, [], 0⟩, ⟨.Name y py, .Name x pi, [], 0⟩] scope pos) 0 (.ref I) (.ref s₂.heap.objs.size) (compEnvC scope (cellsFrom (H.objs.size + 1) scope.names cl₀) H.objs.size env))
      (compPost Γ.M A E none Q (.ref s₂.heap.objs.size) H.objs.size) { s₂ with heap := pushCells (H.push { cls := .type "dict", data := .dict #[] }) scope.names } := by
    refine outer_loop R h3 S₁.base xx it (it.keep _ _ _ hP x₂ xx fun o e => up2 _ _ (up1 _ _ e)) hk hDl (fr₁ _ (Nat.le_refl _)) (fr₁ _ hCle) hNs (Nat.ne_of_lt hIlt) (Nat.ne_of_lt (Nat.lt_of_lt_of_le hIlt hCle)) hx hxd hy hyd hsz
      fun s' m' ys xs hD hr hN => ?_
    refine ⟨m', hN, fun h' hs' => ?_⟩
    have u : Upd H.objs.size s' { s' with heap := h' } := Upd.same (tk := s'.toks) hs'
    obtain ⟨oC, eC, hCs, hCn⟩ := obj_ns hN
    refine k _ _ ?_ ((x₁.trans xs).upd S.base (fr₀ _ hCle) u fun o e => by rw [eC] at e; cases e; exact hCn)
    refine rep_list.mpr ⟨s₂.heap.objs.size, ys.toList, rfl, ?_, ?_⟩
    · have : ys.toList.toArray = ys := by simp
      rw [this]
      refine plain_LO (plain_upd u hDC hD) fun hm => ?_
      obtain ⟨o, e, _⟩ := S.base.priv _ hm
      rw [fr₀ _ (Nat.le_refl _)] at e; cases e
    · exact RepL.mono (keepSeq_upd u fun o e => by rw [eC] at e; cases e; exact hCs) _ _ (RepL.sub (fun a ha => List.mem_cons_of_mem _ ha) _ _ hr)
  exact codeAny_compStart_list loop (it.self A 0 _ _ _ (it.keep _ _ _ hP x₂ xx fun o e => up2 _ _ (up1 _ _ e)) loop)
end Mine

namespace Mine
variable {Γ : Cfg} {n : Nat} {env : Env} {ρ : List (Str × D)} {X : List Addr} {s₀ s : Shared} {pins : List (Addr × Obj)} {π : Pv} {A : Around} {Q : Flow → Shared → Prop} {E : Value → Shared → Prop} {rest : List Stmt}

theorem FnF.le {m a ds d} (h : FnF Γ n a ds d) (hm : n ≤ m) : FnF Γ m a ds d := fun A X s vals R outer r => h A X s vals R outer (r.le hm)

/-- if f(..) != (..): .. where they are the same -/
theorem x_skipF (K : Γ.Ok) {x : Str} {p pos p2 pos2 : Pos} {e e2 : Expr} {es : List Expr} {body : List Stmt} {ds l : List D} {a : Addr} {outer : List Env} (f : IsFn Γ x a) (hc : FnF Γ (n + 1) a ds (.tup l)) (ha : Evs Γ (n + 1) env (vw π ++ ρ) (e :: es) ds) (he2 : Ev Γ (n + 1) env (vw π ++ ρ) e2 (.tup l))
    (hd : depL l ≤ 8) (hp : Plain (.tup l)) (R : Room (n + 1) A) (hfr : A.frames = some (env :: outer)) (hfun : ∀ s, Fm Γ X env s₀ pins π ρ s → FunFr Γ s.heap (env :: outer)) (F : Fm Γ X env s₀ pins π ρ s)
    (k : ∀ s', Fm Γ X env s₀ pins π ρ s' → Go Γ A rest env Q E s')
    (hk : env.kindOf x = some .globalImplicit := by rfl) (hdb : (x == ("__debug__" : Str)) = false := by decide) (hm : behindInMarks .NotEq e2 = false := by with_unfolding_all rfl) :
    Go Γ A (.If (.Compare (.Call (.Name x p) (e :: es) [] pos) [.NotEq] [e2] p2) body [] pos2 :: rest) env Q E s := by
  obtain ⟨o, fd, ho, hf⟩ := f.there
  refine Go.cons (wpAny_If (wpAny_isTrue_Compare1 ?_ hm))
  refine wpAny_Call_NameR (wp_glob K F.view hk f.name ?_ hdb)
  refine Calls.callWith_function (o := o) (fd := fd) (evs_args ha R F.view fun vs s₁ r₁ x₁ => ⟨⟨(x₁.base F.view.base).old _ _ ho f.n1 f.n2, hf⟩, ?_⟩)
  have F₁ := F.go x₁
  refine wpAny_call (hc A X s₁ vs _ _ R.1 hfr (hfun _ F₁) F₁.view.base r₁ fun v s₂ r₂ x₂ => ?_)
  have F₂ := F₁.go x₂
  refine he2 A X s₂ _ _ R F₂.view fun u s₃ r₃ x₃ => ?_
  have F₃ := F₂.go x₃
  refine op_ne_tup hd hp A X s₃ v u _ _ R F₃.view.base (x₃.rep F₂.view.base r₂) r₃ fun w' s₄ r₄ x₄ => ?_
  simp only [Rep] at r₄; subst r₄
  refine wpAny_truthy_bool ?_
  rw [if_neg (by decide)]
  exact (Go.nil (k s₄ (F₃.go x₄))).run

theorem depL_sD : ∀ l : List (List Nat), depL (sD l) = 0
  | [] => rfl
  | a :: r => by
    have := depL_sD r
    show max (dep (.str a)) (depL (sD r)) = 0
    rw [this]; rfl
theorem dep_two (a b : List (List Nat)) : depL [.list (sD a), .list (sD b)] ≤ 8 := by
  simp only [depL, dep, depL_sD]; decide
theorem plain_two (a b : List (List Nat)) : Plain (.tup [.list (sD a), .list (sD b)]) := by
  have h : ∀ l : List (List Nat), Plain (.list (sD l)) := fun l => PlainL.of fun d hd => by
    obtain ⟨t, _, rfl⟩ := List.mem_map.mp hd
    trivial
  exact ⟨h a, h b, trivial⟩

/-- the item before, round the end -/
theorem ev_prev {value slice pos l d} {j : Nat} (hv : Ev Γ n env ρ value (.list l)) (hi : Ev Γ n env ρ slice (.int ((j : Nat) - 1))) (hj : j < 8) (hl : l.length = 8) (hx : l[(j + 7) % 8]? = some d)
    (hs : ∀ o i, subscripted slice false o i = operate [o, i] (getItem o i) := by intro _ _; with_unfolding_all rfl) : Ev Γ n env ρ (.Subscript value slice pos) d := by
  cases j with
  | zero =>
    refine ev_item_neg hv hi (by decide) (by rw [hl]; decide) (by decide) ?_ hs
    rw [hl]; exact hx
  | succ i =>
    have e1 : (i + 1 + 7) % 8 = i := (Nat.add_mod_right i 8).trans (Nat.mod_eq_of_lt (Nat.lt_of_succ_lt hj))
    have e : (((i + 1 : Nat) : Int) - 1) = (i : Nat) := by rw [Int.natCast_add]; exact Int.add_sub_cancel _ _
    have hb : i < 2 ^ 62 := Nat.lt_trans (Nat.lt_of_succ_lt hj) (by decide)
    rw [e1] at hx
    rw [e] at hi
    exact ev_item hv hi (Int.natCast_nonneg i) (Int.ofNat_lt.mpr hb) hx hs
end Mine

namespace Mine
variable {Γ : Cfg} {n : Nat} {env : Env} {ρ : List (Str × D)} {X : List Addr} {s₀ s : Shared} {pins : List (Addr × Obj)} {π : Pv} {A : Around} {Q : Flow → Shared → Prop} {E : Value → Shared → Prop} {rest : List Stmt}

/-- what the law's own body needs of its numbers -/
noncomputable def chs (ns : List Int) (k : Nat) : List Nat := chn (above ns 8) 8 (stopOf ns k)
noncomputable def rowOf (ac : List Nat → List (List Nat)) (ns : List Int) (k : Nat) : List (List Nat) := (ac (nmOf ns (texts ns 8) k)).reverse
noncomputable def seenOf (ns : List Int) : List Nat := ((List.range 8).map (chs ns)).flatten
noncomputable def grt (ns : List Int) (k : Nat) : Nat := (((stops ns).map (rnk ns)).map fun b => cmpN (rnk ns (stopOf ns k)) b).count 1
noncomputable def dueOf (ns : List Int) (l : List Nat) : List (List Nat) := (l.filter fun p => (seenOf ns).contains p).map (tx (texts ns 8))
structure PLaw (ac : List Nat → List (List Nat)) (ns : List Int) : Prop where
  tree : Tree (above ns 8)
  dist : ∀ p q, p ≤ 8 → q ≤ 8 → tx (texts ns 8) p = tx (texts ns 8) q → p = q
  acs : ∀ k, k < 8 → Acs ac (nmOf ns (texts ns 8) k)
  acs0 : Acs ac []
  acs1 : Acs ac [47]
  mem : ∀ k, k < 8 → stopOf ns k ∈ 0 :: fo ns
  tab : ∀ i j, i < 8 → j < 8 → cmpL (rowOf ac ns i) (rowOf ac ns j) = cmpN (rnk ns (stopOf ns i)) (rnk ns (stopOf ns j))
  foLe : ∀ p ∈ fo ns, p ≤ 8
  baLe : ∀ p ∈ ba ns, p ≤ 8
  chLe : ∀ k, k < 8 → ∀ p ∈ chs ns k, p ≤ 8
  adj : ∀ k, k < 8 → Adj (rowOf ac ns k)
  ways : ∀ l : List Nat, l.Perm (List.range 8) → l.Pairwise (fun i j => grt ns i ≤ grt ns j) → (wf ac (l.map (nmOf ns (texts ns 8)) ++ [[47]])).2 = (dueOf ns (fo ns), dueOf ns (ba ns))
  diff : ∀ i j, i < 8 → j < 8 → mdiff (rowOf ac ns i) (rowOf ac ns j) = (apart (chs ns i) (chs ns j) (texts ns 8), apart (chs ns j) (chs ns i) (texts ns 8))

theorem filt_true {α : Type} (l : List α) : l.filter (fun _ => true) = l := List.filter_eq_self.mpr fun _ _ => rfl

theorem txl (ns : List Int) (p : Nat) : (tx (texts ns 8) p).length ≤ 48 := by
  unfold tx
  rw [List.getD_eq_getElem?_getD]
  cases e : (texts ns 8)[p]? with
  | none => simp
  | some x => simpa using texts_bound ns 8 x (List.mem_of_getElem? e)

theorem idx_cast (p : Nat) : ∀ l : List Nat, (l.map fun q : Nat => (q : Int)).idxOf (p : Int) = l.idxOf p
  | [] => rfl
  | q :: l => by
    rw [List.map_cons, List.idxOf_cons, List.idxOf_cons, idx_cast p l]
    have : ((q : Int) == (p : Int)) = (q == p) := by rw [Bool.eq_iff_iff]; simp; omega
    rw [this]
noncomputable def unR : D → List (List Nat)
  | .list l => l.map unS
  | _ => []
theorem unR_sD (r : List (List Nat)) : unR (.list (sD r)) = r := by
  show (sD r).map unS = r
  unfold sD
  rw [List.map_map]
  exact List.map_id'' (fun _ => rfl) r

theorem cmpN_small (a b : Nat) : -1 ≤ cmpN a b ∧ cmpN a b ≤ 1 := by
  unfold cmpN; split
  · omega
  · split <;> omega

set_option maxHeartbeats 4000000 in
theorem fn_law (L : Law3 Γ) {sc : List Int} (hz : sc.length ≤ 63) {ac : List Nat → List (List Nat)} (P : PLaw ac (nums sc)) : FnF Γ 105 106 [.list (sc.map .int)] (.bool true) := by
  refine fn_introFC (n := 104) ["script"] L.toOk L.d18 (fun A X s₀ env s E Q pm c doc outer hcd hfr hfun he R F k => ?_) (hps := fun pm c doc vals hv => by obtain ⟨a, rfl⟩ := zip1 hv; rfl)
  have hcode : env.code = .ref 105 := by
    obtain ⟨o, e1, e2⟩ := hcd
    rw [he]; exact L.c18 o _ e1 e2
  subst he
  have hl8 : (sc.take 8).length ≤ 8 := by rw [List.length_take]; omega
  have hn8 := nums_len sc
  have e0 : (sc.map D.int).take 8 ++ (dfl.map D.int).drop ((sc.map D.int).take 8).length = (nums sc).map D.int := by
    unfold nums; simp [List.map_take, List.map_drop]
  refine x_assign (d := .list ((nums sc).map .int)) (Ev.to (ev_bin (ev_upto (k := 8) (ev_name rfl) ev_int (by simp; omega)) (ev_from (k := ((sc.map D.int).take 8).length) (l := dfl.map D.int) (ev_list (.cons ev_int rfl (.cons ev_int rfl (.cons ev_int rfl (.cons ev_int rfl (.cons ev_int rfl (.cons ev_int rfl (.cons ev_int rfl (.cons ev_int rfl .nil)))))))))
    (ev_bi L.toOk rfl (L.none _ (by decide)) (by decide +kernel) (.cons (ev_upto (k := 8) (ev_name rfl) ev_int (by simp; omega)) rfl .nil) (bi_len (by simp; omega))) (by decide)) (op_addl (by simp [dfl]; omega))) (by rw [e0])) R F fun s F => ?_
  refine x_tup ["above", "texts"] (ev_callFn L.toLaw L.d13 (fn_places L.toLaw hn8) (.cons (ev_name rfl) rfl .nil)) R F (fun s F => ?_) (st_assign (st_assign .nil))
  refine x_tup ["forth", "back"] (ev_callFn L.toLaw L.d15 ((fn_walk L P.tree (texts_len _ 8) P.dist 9 0 (by decide) (by decide)).le (by decide)) (.cons (Ev.to ev_int rfl) rfl (.cons (ev_name rfl) rfl (.cons (ev_name rfl) rfl .nil)))) R F (fun s F => ?_) (st_assign (st_assign .nil))
  have F := F.weak (ρ' := [("numbers", .list ((nums sc).map .int)), ("above", .list (iD (above (nums sc) 8))), ("texts", .list (sD (texts (nums sc) 8))), ("forth", .list (iD (fo (nums sc)))), ("back", .list (iD (ba (nums sc))))])
    (weak_cons rfl (weak_cons rfl (weak_cons rfl (weak_cons rfl (weak_cons rfl weak_nil)))))
  generalize nums sc = ns at *
  have r8 : ∀ {env : Env} {ρ : List (Str × D)} {p pos : Pos} {e8 : Expr}, Ev Γ 104 env ρ e8 (.int (8 : Nat)) → env.kindOf "range" = some .globalImplicit → starEach [e8] env = [(false, eval e8 env)] → EvI Γ 104 env ρ (.Call (.Name "range" p) [e8] [] pos) ((List.range 8).map fun p : Nat => D.int (p : Nat)) := fun {env ρ p pos e8} he hk hs => by
    have := evi_range1 (pos := pos) (p := p) L.toOk hk (L.none _ (by decide)) he (by decide) (by decide) hs
    simpa using this
  refine x_assign (d := .list (iD (stops ns))) (Ev.to (ev_compG (fun p : Nat => .int (p : Nat)) unI (List.range 8) (fun _ => true) (fun p => .int (stopOf ns p : Nat)) (fun a _ => by simp [unI]) (r8 ev_int rfl rfl) (fun C cl a ha => rfl) (fun C cl a ha _ => ?_) (by simp)) (by rw [filt_true]; simp [iD, stops])) R F fun s F => ?_
  · have ha := List.mem_range.mp ha
    exact Ev.to (ev_bin (ev_bin (ev_bin (ev_item (k := ((a : Nat) : Int)) (ev_name rfl) (ev_name rfl) (nn a) (lt62b ha) (nb_get (by rw [hn8]; exact ha))) ev_int (op_div L.toOk (by decide) (by decide))) (ev_bin ev_int (ev_name rfl) (op_mul (by decide))) op_add) ev_int (op_mod (by decide))) (by rw [stopOf_cast]; simp)
  have hst : ∀ a, a < 8 → (iD (stops ns))[a]? = some (.int (stopOf ns a : Nat)) := fun a ha => iD_get (by unfold stops; rw [List.getElem?_map, List.getElem?_range ha]; rfl)
  refine x_assign (d := .list (sD (nms ns))) (Ev.to (ev_compG (fun p : Nat => .int (p : Nat)) unI (List.range 8) (fun _ => true) (fun p => .str (nmOf ns (texts ns 8) p)) (fun a _ => by simp [unI]) (r8 ev_int rfl rfl) (fun C cl a ha => rfl) (fun C cl a ha _ => ?_) (by simp)) (by rw [filt_true]; simp [sD, nms])) R F fun s F => ?_
  · have ha := List.mem_range.mp ha
    have hs8 := stopOf_le ns a
    have hs2 := slashOf_le ns a
    have hts : stopOf ns a < (texts ns 8).length := by rw [texts_len]; omega
    refine ev_bin (ev_item (k := ((stopOf ns a : Nat) : Int)) (ev_name rfl) (ev_item (k := ((a : Nat) : Int)) (ev_name rfl) (ev_name rfl) (nn a) (lt62b ha) (hst a ha)) (nn _) (lt62c hs8) (sD_get (tx_get hts)))
      (ev_bin (ev_strk (l := [47])) (Ev.to (ev_bin (ev_bin (ev_bin (ev_item (k := ((a : Nat) : Int)) (ev_name rfl) (ev_name rfl) (nn a) (lt62b ha) (nb_get (by rw [hn8]; exact ha))) ev_int (op_div L.toOk (by decide) (by decide))) (ev_name rfl) op_add) ev_int (op_mod (by decide))) (by rw [slashOf_cast]; rfl)) (op_slash (m := slashOf ns a) (by omega))) (op_adds ?_)
    have := txl ns (stopOf ns a)
    rw [List.length_replicate]; refine Nat.le_trans (Nat.add_le_add this hs2) (by decide)
  refine x_assign (d := .list ((nms ns).map fun nm => .list (sD (ac nm).reverse))) (Ev.to (ev_compG (α := List Nat) .str unS (nms ns) (fun _ => true) (fun nm => .list (sD (ac nm).reverse)) (fun a _ => rfl) (evi_list (ev_name rfl)) (fun C cl a ha => rfl) (fun C cl a ha _ => ?_) (by simp [nms])) (by rw [filt_true])) R F fun s F => ?_
  · obtain ⟨j, hj, rfl⟩ := List.mem_map.mp ha
    obtain ⟨m, t, N, hm, e⟩ := P.acs j (List.mem_range.mp hj)
    refine Ev.to (ev_rev (ev_anc L.toLaw N (by omega) (ev_name rfl) (by decide)) (Ev.to (ev_un ev_int op_neg) rfl) (by simp; omega)) ?_
    rw [e]; simp [sD, List.map_reverse]
  have hzl : (0 :: fo ns).length ≤ 1000 := by
    have := (wk_len (ts := texts ns 8) P.tree 9 0 (by decide)).1
    unfold fo; simp at this ⊢; omega
  refine x_assign (d := .list (iD ((stops ns).map (rnk ns)))) (Ev.to (ev_compG (fun p : Nat => .int (p : Nat)) unI (stops ns) (fun _ => true) (fun p => .int (rnk ns p : Nat)) (fun a _ => by simp [unI]) (evi_list (ev_name rfl)) (fun C cl a ha => rfl) (fun C cl a ha _ => ?_) (by simp [stops])) (by rw [filt_true]; simp [iD])) R F fun s F => ?_
  · obtain ⟨j, hj, rfl⟩ := List.mem_map.mp ha
    have hmem := P.mem j (List.mem_range.mp hj)
    have hmem' : ((stopOf ns j : Nat) : Int) ∈ (0 :: fo ns).map fun p : Nat => (p : Int) := List.mem_map.mpr ⟨_, hmem, rfl⟩
    have e1 : (iD (0 :: fo ns)) = ((0 :: fo ns).map fun p : Nat => (p : Int)).map D.int := by simp [iD, List.map_map]
    have e2 : ((0 :: fo ns).map fun p : Nat => (p : Int)).idxOf ((stopOf ns j : Nat) : Int) = rnk ns (stopOf ns j) := idx_cast _ _
    refine ev_lmeth (l := iD (0 :: fo ns)) (ev_bin (ev_list (.cons ev_int rfl .nil)) (ev_name rfl) (op_addl (by rw [iD_len]; simp at hzl ⊢; omega))) (ev_name rfl) PySem.F.slot_list_index PySem.F.type_list_index ?_
    rw [e1, ← e2]
    exact bi_index hmem' (by simpa using hzl)
  obtain ⟨rows, hrows⟩ : ∃ rows, rows = (nms ns).map fun nm => (ac nm).reverse := ⟨_, rfl⟩
  have hrl : rows.length = 8 := by rw [hrows]; simp [nms]
  have er : ((nms ns).map fun nm => D.list (sD (ac nm).reverse)) = rows.map fun r => .list (sD r) := by rw [hrows, List.map_map]; rfl
  rw [er] at F
  refine x_assign (d := tabD (rows.map fun one => rows.map fun two => cmpL one two)) (Ev.to (ev_compG (α := List (List Nat)) (fun r => .list (sD r)) unR rows (fun _ => true) (fun one => .list ((rows.map fun two => cmpL one two).map .int)) (fun a _ => unR_sD a) (evi_list (ev_name rfl)) (fun C cl a ha => rfl) (fun C cl a ha _ => ?_) (by omega)) (by rw [filt_true]; simp [tabD, List.map_map])) R F fun s F => ?_
  · refine Ev.to (ev_compG (α := List (List Nat)) (fun r => .list (sD r)) unR rows (fun _ => true) (fun two => .int (cmpL a two)) (fun a _ => unR_sD a) (evi_list (ev_name rfl)) (fun C cl a ha => rfl) (fun C cl b hb _ => ?_) (by omega)) (by rw [filt_true]; simp [List.map_map])
    exact ev_callFn L.toLaw L.d11 ((fn_cmp L.toLaw).le (by decide)) (.cons (ev_name rfl) rfl (.cons (ev_name rfl) rfl .nil))
  have etab : (rows.map fun one => rows.map fun two => cmpL one two) = ((stops ns).map (rnk ns)).map fun one => ((stops ns).map (rnk ns)).map fun two => cmpN one two := by
    rw [hrows]
    unfold nms stops
    simp only [List.map_map]
    refine List.map_congr_left fun i hi => List.map_congr_left fun j hj => ?_
    exact P.tab i j (List.mem_range.mp hi) (List.mem_range.mp hj)
  have hsm : smallRows (((stops ns).map (rnk ns)).map fun one => ((stops ns).map (rnk ns)).map fun two => cmpN one two) := by
    refine ⟨by simp [stops], fun r hr => ?_⟩
    obtain ⟨a, _, rfl⟩ := List.mem_map.mp hr
    refine ⟨by simp [stops], fun i hi => ?_⟩
    obtain ⟨b, _, rfl⟩ := List.mem_map.mp hi
    exact cmpN_small a b
  rw [etab] at F
  obtain ⟨rk, hrk⟩ : ∃ rk, rk = (stops ns).map (rnk ns) := ⟨_, rfl⟩
  have hrkl : rk.length = 8 := by rw [hrk]; simp [stops]
  rw [← hrk] at F hsm
  refine x_skip ((tr_cmp (ev_type L.toOk (T := "str") rfl (L.none _ (by decide)) (by decide +kernel) (.cons (ev_name rfl) rfl .nil) (bi_strtab hsm)) (ev_type L.toOk (T := "str") rfl (L.none _ (by decide)) (by decide +kernel) (.cons (d := tabD (rk.map fun one => rk.map fun two => cmpN one two)) (Ev.to (ev_compG (fun p : Nat => .int (p : Nat)) unI rk (fun _ => true) (fun one => .list ((rk.map fun two => cmpN one two).map .int)) (fun a _ => by simp [unI]) (evi_list (ev_name rfl)) (fun C cl a ha => ?_) (fun C cl a ha _ => ?_) (by omega)) (by rw [filt_true]; simp [tabD, List.map_map])) rfl .nil) (bi_strtab hsm)) op_nes).to (by simp)) R F fun s F => ?_
  · rfl
  · refine Ev.to (ev_compG (fun p : Nat => .int (p : Nat)) unI rk (fun _ => true) (fun two => .int (cmpN a two)) (fun a _ => by simp [unI]) (evi_list (ev_name rfl)) (fun C cl a ha => rfl) (fun C cl b hb _ => ?_) (by omega)) (by rw [filt_true]; simp [List.map_map])
    refine ev_if (b := a == b) ((tr_cmp (ev_name rfl) (ev_name rfl) op_eq).to (by rw [Bool.eq_iff_iff]; simp; omega)) (fun h => Ev.to ev_int (by simp at h; simp [cmpN, h])) (fun h => ev_if (b := decide (b < a)) ((tr_cmp (ev_name rfl) (ev_name rfl) op_gt).to (by rw [Bool.eq_iff_iff]; simp)) (fun h2 => Ev.to ev_int (by simp at h h2; simp [cmpN, h, h2])) (fun h2 => Ev.to (ev_un ev_int op_neg) (by simp at h h2; simp [cmpN, h]; omega)))
  have hup : ∀ p ∈ stops ns, p ≤ 8 := fun p hp => by
    obtain ⟨j, _, rfl⟩ := List.mem_map.mp hp
    exact stopOf_le ns j
  have hstl : (stops ns).length = 8 := by simp [stops]
  refine x_comp (ds := iD (stops ns)) (fun _ => true) (fun d => .list (iD (chn (above ns 8) 8 (unI d)))) R F (evi_list (ev_name rfl)) (fun C cl d hd => rfl) (fun C cl d hd _ => ?_) (by rw [iD_len]; omega) (fun s F => ?_)
  · obtain ⟨p, hp, rfl⟩ := List.mem_map.mp hd
    exact ev_callFn L.toLaw L.d14 ((fn_chain L.toLaw P.tree (hup p hp)).le (by decide)) (.cons (ev_name rfl) rfl (.cons (ev_name rfl) rfl .nil))
  have ech : ((iD (stops ns)).filter (fun _ => true)).map (fun d => D.list (iD (chn (above ns 8) 8 (unI d)))) = (stops ns).map fun p => .list (iD (chn (above ns 8) 8 p)) := by
    rw [filt_true]; unfold iD; rw [List.map_map]; exact List.map_congr_left fun p _ => by simp [unI]
  rw [ech] at F
  have ech8 : ((stops ns).map fun p => D.list (iD (chn (above ns 8) 8 p))) = (List.range 8).map fun k => D.list (iD (chs ns k)) := by
    unfold stops chs; rw [List.map_map]; rfl
  rw [ech8] at F
  have esn : (((List.range 8).map fun k => iD (chs ns k)).flatten) = iD (seenOf ns) := by
    unfold seenOf iD
    rw [List.map_flatten, List.map_map]; rfl
  have hcl : ∀ k, (chs ns k).length ≤ 8 := fun k => chn_len _ 8 _
  have hsnl : (seenOf ns).length ≤ 1000 := by
    unfold seenOf
    rw [List.length_flatten, List.map_map]
    have := sum_le (l := List.range 8) (g := List.length ∘ chs ns) (g' := fun _ => 8) fun q _ => hcl q
    exact Nat.le_trans this (by decide)
  refine x_assign (d := .list (iD (seenOf ns))) (Ev.to (ev_comp2 (dss := (List.range 8).map fun k => iD (chs ns k)) (by decide) (evi_list (Ev.to (ev_name rfl) (by rw [List.map_map]; rfl))) rfl rfl (by decide) (by decide) (by decide) (by decide) (by decide) (by rw [esn, iD_len]; exact hsnl)) (by rw [esn])) R F fun s F => ?_
  have hfl : (fo ns).length ≤ 1000 := by simp at hzl; omega
  have hbl : (ba ns).length ≤ 1000 := Nat.le_trans (wk_len (ts := texts ns 8) P.tree 9 0 (by decide)).2 (by decide)
  refine x_assign (d := .tup [.list (sD (dueOf ns (fo ns))), .list (sD (dueOf ns (ba ns)))]) (ev_tup (.cons (Ev.to (ev_compG (fun p : Nat => .int (p : Nat)) unI (fo ns) (fun p => (seenOf ns).contains p) (fun p => .str (tx (texts ns 8) p)) (fun a _ => by simp [unI]) (evi_list (ev_name rfl)) (fun C cl a ha => tr_cmp (ev_name rfl) (ev_name rfl) op_in_iD) (fun C cl a ha _ => ?_) hfl) (by simp [dueOf, sD, List.map_map])) rfl
    (.cons (Ev.to (ev_compG (fun p : Nat => .int (p : Nat)) unI (ba ns) (fun p => (seenOf ns).contains p) (fun p => .str (tx (texts ns 8) p)) (fun a _ => by simp [unI]) (evi_list (ev_name rfl)) (fun C cl a ha => tr_cmp (ev_name rfl) (ev_name rfl) op_in_iD) (fun C cl a ha _ => ?_) hbl) (by simp [dueOf, sD, List.map_map])) rfl .nil))) R F fun s F => ?_
  · have ha8 := P.foLe a ha
    exact ev_item (k := ((a : Nat) : Int)) (ev_name rfl) (ev_name rfl) (nn a) (lt62c ha8) (sD_get (tx_get (by rw [texts_len]; exact Nat.lt_succ_of_le ha8)))
  · have ha8 := P.baLe a ha
    exact ev_item (k := ((a : Nat) : Int)) (ev_name rfl) (ev_name rfl) (nn a) (lt62c ha8) (sD_get (tx_get (by rw [texts_len]; exact Nat.lt_succ_of_le ha8)))
  have hrow : ∀ p, p < 8 → (rk.map fun one => D.list ((rk.map fun two => cmpN one two).map .int))[p]? = some (.list ((rk.map fun two => cmpN (rnk ns (stopOf ns p)) two).map .int)) := fun p hp => by
    have e1 : rk[p]? = some (rnk ns (stopOf ns p)) := by
      rw [hrk]; unfold stops; rw [List.getElem?_map, List.getElem?_map, List.getElem?_range hp]; rfl
    rw [List.getElem?_map, e1]; rfl
  have etD : tabD (rk.map fun one => rk.map fun two => cmpN one two) = .list (rk.map fun one => D.list ((rk.map fun two => cmpN one two).map .int)) := by
    unfold tabD; rw [List.map_map]; rfl
  rw [etD] at F
  have hgr : ∀ p, (rk.map fun two => cmpN (rnk ns (stopOf ns p)) two).count 1 = grt ns p := fun p => by rw [hrk]; rfl
  refine Go.cons (wpAny_Assign_Name (srt_rng (κ := intKind) intKind_oneLt L.toLaw2 (n' := 100) (c := 105) (P := 103) (ln := 140) (cn := 33) (qual := "law.<locals>.<lambda>") (x := "k") (m := 8) ev_int (by decide) (by decide) R (by decide) F.st rfl (.inr ⟨rfl, rfl, rfl, rfl, rfl⟩) hcode ?hq rfl rfl rfl ?hf ?hbind rfl (by decide) rfl rfl rfl
    (fun p => .int (grt ns p : Nat)) (fun p => ((grt ns p : Nat) : Int)) (fun _ => trivial) ?hb ?hkk ?hkind rfl (k := fun l' v s' hp hpw r x => (F.go x).store r (.inl rfl) (fun _ h => by simp at h) fun s F => ?_)) rfl)
  case hq => show (("law" : Str) ++ ".<locals>." ++ "<lambda>" : Str) = _; decide +kernel
  case hf => rfl
  case hbind => intro cl pm c ctv v; rfl
  case hb =>
    intro p hp env' h1 h2
    exact Ev.to (ev_lmeth (ev_item (k := ((p : Nat) : Int)) (ev_name rfl) (ev_name rfl) (nn p) (lt62b hp) (hrow p hp)) ev_int PySem.F.slot_list_count PySem.F.type_list_count bi_count) (by rw [hgr])
  case hkk =>
    intro p h v r
    obtain ⟨t, rfl⟩ := rep_int.mp r
    rfl
  case hkind =>
    intro keys h h1 h2 h3
    obtain ⟨kz, hkz⟩ := keys_ints (tx := fun p => ((grt ns p : Nat) : Int)) h3
    exact ksk_kind (by simpa using hkz) (by simpa using h1)
  have hl' : ∀ k ∈ l', k < 8 := fun k hk => List.mem_range.mp (hp.subset hk)
  have hll : l'.length = 8 := by rw [hp.length_eq]; simp
  have hpw' : l'.Pairwise (fun i j => grt ns i ≤ grt ns j) := hpw.imp fun h => by
    simp [KeyOrd.kle] at h; omega
  have hw := P.ways l' hp hpw'
  have hnm : ∀ p, p < 8 → (nms ns)[p]? = some (nmOf ns (texts ns 8) p) := fun p hp => by
    unfold nms; rw [List.getElem?_map, List.getElem?_range hp]; rfl
  refine x_skipF (n := 103) (l := [.list (sD (wf ac (l'.map (nmOf ns (texts ns 8)) ++ [[47]])).2.1), .list (sD (wf ac (l'.map (nmOf ns (texts ns 8)) ++ [[47]])).2.2)]) L.toOk L.d16.isFn ((fn_ways L.toLaw (ac := ac) (names := l'.map (nmOf ns (texts ns 8)) ++ [[47]]) P.acs0 (fun x hx => ?_) (by simp [hll])).le (by decide))
    (.cons (Ev.to (ev_bin (ev_compG (fun p : Nat => .int (p : Nat)) unI l' (fun _ => true) (fun p => .str (nmOf ns (texts ns 8) p)) (fun a _ => by simp [unI]) (evi_list (ev_name rfl)) (fun C cl a ha => rfl) (fun C cl a ha _ => ?_) (by omega)) (ev_list (.cons (ev_strk (l := [47])) rfl .nil)) (op_addl (by rw [filt_true]; simp [hll]))) (by rw [filt_true]; simp [sD, List.map_map])) rfl .nil)
    (Ev.to (ev_name rfl) (by rw [hw])) (dep_two _ _) (plain_two _ _) R hfr (fun s F => F.frames L.toOk hfun rfl rfl) F fun s F => ?_
  · rcases List.mem_append.mp hx with h | h
    · obtain ⟨j, hj, rfl⟩ := List.mem_map.mp h
      exact P.acs j (hl' j hj)
    · have : x = [47] := by simpa using h
      subst this; exact P.acs1
  · exact ev_item (k := ((a : Nat) : Int)) (ev_name rfl) (ev_name rfl) (nn a) (lt62b (hl' a ha)) (sD_get (hnm a (hl' a ha)))
  have erw : rows = (List.range 8).map (rowOf ac ns) := by rw [hrows]; unfold nms; rw [List.map_map]; rfl
  have hrg : ∀ p, p < 8 → (rows.map fun r => D.list (sD r))[p]? = some (.list (sD (rowOf ac ns p))) := fun p hp => by
    rw [erw, List.getElem?_map, List.getElem?_map, List.getElem?_range hp]; rfl
  have hcg : ∀ p, p < 8 → ((List.range 8).map fun k => D.list (iD (chs ns k)))[p]? = some (.list (iD (chs ns p))) := fun p hp => by
    rw [List.getElem?_map, List.getElem?_range hp]; rfl
  have hrl8 : ∀ p, p < 8 → (rowOf ac ns p).length ≤ 20 := fun p hp => by
    have := (P.acs p hp).len
    unfold rowOf; simpa using this
  refine x_for (fun _ => [("texts", .list (sD (texts ns 8))), ("chains", .list ((List.range 8).map fun k => D.list (iD (chs ns k)))), ("rows", .list (rows.map fun r => D.list (sD r)))]) (fun _ => []) (forIt_range1 (m := 8) L.toOk ev_int (by decide) (hm := L.none _ (by decide))) R (F.weak (weak_cons rfl (weak_cons rfl (weak_cons rfl weak_nil)))) (fun d hd => by obtain ⟨i, _, rfl⟩ := List.mem_map.mp hd; trivial) (fun _ => rfl) (fun j d hd pins' s Q' E' F kn kr => ?_) (fun s F => ?_)
  · have hj : j < 8 := by
      have := (List.getElem?_eq_some_iff.mp hd).1; simpa using this
    have hd' : d = .int ((j : Nat) : Int) := by
      rw [List.getElem?_map, List.getElem?_range hj] at hd
      have := Option.some.inj hd
      rw [← this]; simp
    subst hd'
    have hi : (j + 7) % 8 < 8 := Nat.mod_lt _ (by decide)
    generalize hii : (j + 7) % 8 = i at *
    refine x_assign (d := .tup [.list (sD (apart (chs ns j) (chs ns i) (texts ns 8))), .list (sD (apart (chs ns i) (chs ns j) (texts ns 8)))])
      (ev_tup (.cons (ev_callFn L.toLaw L.d17 ((fn_apart L.toLaw (texts_len _ 8) (P.chLe j hj) (by have := hcl j; omega)).le (by decide))
          (.cons (ev_item (k := ((j : Nat) : Int)) (ev_name rfl) (ev_name rfl) (nn j) (lt62b hj) (hcg j hj)) rfl (.cons (ev_prev (ev_name rfl) (ev_bin (ev_name rfl) ev_int op_sub) hj (by simp) (hii ▸ hcg i hi)) rfl (.cons (ev_name rfl) rfl .nil)))) rfl
        (.cons (ev_callFn L.toLaw L.d17 ((fn_apart L.toLaw (texts_len _ 8) (P.chLe i hi) (by have := hcl i; omega)).le (by decide))
          (.cons (ev_prev (ev_name rfl) (ev_bin (ev_name rfl) ev_int op_sub) hj (by simp) (hii ▸ hcg i hi)) rfl (.cons (ev_item (k := ((j : Nat) : Int)) (ev_name rfl) (ev_name rfl) (nn j) (lt62b hj) (hcg j hj)) rfl (.cons (ev_name rfl) rfl .nil)))) rfl .nil))) R F fun s F => ?_
    refine x_skipF (n := 103) (l := [.list (sD (mdiff (rowOf ac ns j) (rowOf ac ns i)).1), .list (sD (mdiff (rowOf ac ns j) (rowOf ac ns i)).2)]) L.toOk L.d9.isFn ((fn_sorted L.toLaw (by have := hrl8 j hj; omega) (by have := hrl8 i hi; omega) (P.adj j hj) (P.adj i hi)).le (by decide))
      (.cons (ev_item (k := ((j : Nat) : Int)) (ev_name rfl) (ev_name rfl) (nn j) (lt62b hj) (hrg j hj)) rfl (.cons (ev_prev (ev_name rfl) (ev_bin (ev_name rfl) ev_int op_sub) hj (by simp [hrl]) (hii ▸ hrg i hi)) rfl .nil))
      (Ev.to (ev_name rfl) (by rw [P.diff j i hj hi])) (dep_two _ _) (plain_two _ _) R hfr (fun s F => F.frames L.toOk hfun rfl rfl) F fun s F => ?_
    exact Go.nil (kn s (F.weak (weak_cons rfl (weak_cons rfl (weak_cons rfl weak_nil)))))
  · exact x_ret ev_bool R F k
end Mine

namespace Mine
variable {Γ : Cfg} {n : Nat} {env : Env} {ρ : List (Str × D)} {X : List Addr} {s₀ s : Shared} {pins : List (Addr × Obj)} {π : Pv} {A : Around} {Q : Flow → Shared → Prop} {E : Value → Shared → Prop} {rest : List Stmt}

theorem oldK_of {s' : Shared} (K : Γ.Ok) (B : Base Γ [] s'.heap) (h1 : CodeHd Γ.h 88 86) (h2 : CodeHd Γ.h 105 103) : OldK Γ.h s'.heap := by
  have tab : ∀ {c P}, CodeHd Γ.h c P → Γ.h.get? P = some (tabO #[]) → isCodeTable Γ.h P := fun x hP => ⟨_, (x.tab hP).1⟩
  refine ⟨fun b o e => ?_, fun b o e => ?_⟩
  · by_cases h86 : b = 86
    · subst h86
      obtain ⟨vs, e', _⟩ := B.t1
      rw [K.t1] at e; cases e
      exact .inr (.inl ⟨tab h1 K.t1, rfl, #[], vs, rfl, by rw [e']; simp⟩)
    · by_cases h103 : b = 103
      · subst h103
        obtain ⟨vs, e', _⟩ := B.t2
        rw [K.t2] at e; cases e
        exact .inr (.inl ⟨tab h2 K.t2, rfl, #[], vs, rfl, by rw [e']; simp⟩)
      · exact .inl (B.old b o e h86 h103)
  · by_cases h86 : b = 86
    · subst h86; obtain ⟨vs, e', _⟩ := B.t1; exact ⟨_, e'⟩
    · by_cases h103 : b = 103
      · subst h103; obtain ⟨vs, e', _⟩ := B.t2; exact ⟨_, e'⟩
      · exact ⟨_, B.old b o e h86 h103⟩

theorem law_end (L : Law3 Γ) {sc : List Int} (hz : sc.length ≤ 63) {ac : List Nat → List (List Nat)} (P : PLaw ac (nums sc)) {c : ClaimW} {cl : Str → Option Addr} {mean : ExcName → Option Value} {args : List WData} {s₁ : Shared} {a : Addr} {vs : List Value}
    (e : Γ.h = s₁.heap) (hg : s₁.gens = #[]) (hl : s₁.heap.get? a = some { cls := .type "list", data := .seq vs.toArray }) (hi : IntsAre vs sc) (hr : ∀ cls, c.raises args cls = false) (hp : c.post args (.bool true) args = true) {E : Value → Shared → Prop} :
    wpAny Γ.M callerA (call (.ref 106) [.ref a]) (fun v s' => GoodWG c cl mean args s₁ (.ok (.ret v)) s') E s₁ := by
  have B : Base Γ [] s₁.heap := by
    rw [← e]
    exact ⟨fun _ _ e _ _ => e, ⟨#[], L.t1, .inl rfl⟩, ⟨#[], L.t2, .inl rfl⟩, fun a h => by simp at h⟩
  refine wpAny_call (fn_law L hz P callerA [] s₁ [.ref a] _ [] ⟨fun _ => rfl, by decide, by decide, ⟨[], rfl⟩, rfl⟩ rfl (fun e h => by simp at h) B ?_ fun v s' rv x => ?_)
  · exact repL_cons.mpr ⟨_, [], rfl, rep_list.mpr ⟨a, vs, rfl, ⟨⟨_, _, hl, rfl, rfl, rfl⟩, by simp⟩, RepL.ofInts hi⟩, repL_nil.mpr rfl⟩
  · rw [rep_bool] at rv; subst rv
    refine ⟨.inl ⟨_, _, [], rfl, hr, ReadsW.bool true, hp, fun _ => ⟨List.nodup_nil, fun _ hm => (nomatch hm)⟩⟩, e ▸ oldK_of L.toOk (x.base B) L.h1 L.h2, x.os, ?_⟩
    obtain ⟨new, h1, h2⟩ := x.gens
    rw [h1, hg]; simpa using h2

theorem defd_of {a c : Addr} {name : Str} {params : Arguments} {body : List Stmt} {dl rt tp scope ts bd pos pm doc} {o : Obj} (h1 : Γ.h.get? a = some o) (h2 : o.data = .func (Calls.docDef name params body scope pm (.ref c) doc)) (h3 : Γ.h.CodeRec (.ref c) name) (h4 : Γ.mg name = some (.ref a))
    (h5 : (a ≠ 86 ∧ a ≠ 103) ∧ c ≠ 86 ∧ c ≠ 103) : Defd Γ a (.FunctionDef name params body dl rt tp scope ts bd pos) := ⟨pm, c, doc, o, h1, h2, h3, h4, h5.1.1, h5.1.2, h5.2.1, h5.2.2⟩

/-- what a names' dict tells of a name -/
theorem ns_at {h : Heap} {a : Addr} {m : Str → Option Value} (n : h.Ns a m) {o : Obj} {es ep} (e : h.get? a = some o) (hd : o.data = .dict es ep) (x : Str) : m x = nsFind es x := by
  obtain ⟨o', es', ep', e1, e2, _, e3⟩ := n
  rw [e] at e1; cases e1
  rw [hd] at e2; cases e2
  exact (e3 x).symm
end Mine

namespace Mine
variable {Γ : Cfg} {n : Nat} {env : Env} {ρ : List (Str × D)} {X : List Addr} {s₀ s : Shared} {pins : List (Addr × Obj)} {π : Pv} {A : Around} {Q : Flow → Shared → Prop} {E : Value → Shared → Prop} {rest : List Stmt}

/-! ## the told tree, as the law makes it -/
theorem texts_get (ns : List Int) {p : Nat} : ∀ {j}, p ≤ j → tx (texts ns j) p = tx (texts ns p) p
  | 0, h => by
    have : p = 0 := by omega
    subst this; rfl
  | j + 1, h => by
    by_cases hp : p = j + 1
    · subst hp; rfl
    · rw [← texts_get ns (p := p) (j := j) (by omega)]
      unfold tx
      rw [List.getD_eq_getElem?_getD, List.getD_eq_getElem?_getD]
      show ((texts ns j ++ [_])[p]?).getD [] = _
      rw [List.getElem?_append_left (by rw [texts_len]; omega)]
theorem texts_new (ns : List Int) {j p : Nat} (h : p ≤ j) (h0 : 0 < p) : tx (texts ns j) p = newOf ns (texts ns (p - 1)) p := by
  rw [texts_get ns h]
  obtain ⟨q, rfl⟩ : ∃ q, p = q + 1 := ⟨p - 1, by omega⟩
  unfold tx
  rw [List.getD_eq_getElem?_getD]
  show ((texts ns q ++ [_])[q + 1]?).getD [] = _
  rw [List.getElem?_append_right (by rw [texts_len]; omega), texts_len]
  simp
theorem above_get (ns : List Int) {p : Nat} (h0 : 0 < p) : ∀ {j}, p ≤ j → up (above ns j) p = upOf ns p
  | 0, h => by omega
  | j + 1, h => by
    unfold up
    rw [List.getD_eq_getElem?_getD]
    show ((above ns j ++ [_])[p]?).getD 0 = _
    by_cases hp : p = j + 1
    · subst hp
      rw [List.getElem?_append_right (by rw [above_len]; omega), above_len]
      simp
    · rw [List.getElem?_append_left (by rw [above_len]; omega)]
      have := above_get ns h0 (j := j) (by omega)
      unfold up at this
      rw [List.getD_eq_getElem?_getD] at this
      exact this
theorem above_zero (ns : List Int) : ∀ j, up (above ns j) 0 = 0
  | 0 => rfl
  | j + 1 => by
    have := above_zero ns j
    unfold up at this ⊢
    rw [List.getD_eq_getElem?_getD] at this ⊢
    show ((above ns j ++ [_])[0]?).getD 0 = _
    rw [List.getElem?_append_left (by rw [above_len]; omega)]
    exact this
theorem tree_of (ns : List Int) : Tree (above ns 8) :=
  ⟨above_len ns 8, above_zero ns 8, fun p h0 h8 => by rw [above_get ns h0 h8]; exact upOf_lt ns h0⟩

/-- the told tree's facts, from here on all that is asked -/
structure Told9 (ab : List Nat) (ts : List (List Nat)) : Prop where
  tree : Tree ab
  len : ts.length = 9
  zero : tx ts 0 = []
  step : ∀ p, 0 < p → p ≤ 8 → ∃ s e, tx ts p = tx ts (up ab p) ++ sl s ++ e ∧ e ≠ [] ∧ 47 ∉ e ∧ (up ab p ≠ 0 → 0 < s) ∧ s ≤ 3
  dist : ∀ p q, p ≤ 8 → q ≤ 8 → tx ts p = tx ts q → p = q
  bound : ∀ p, (tx ts p).length ≤ 48

theorem marks_ok : ∀ m ∈ marks, m ≠ [] ∧ 47 ∉ m := by decide
theorem texts_mem (ns : List Int) {j p : Nat} (h : p ≤ j) : tx (texts ns j) p ∈ texts ns j := by
  have hl := texts_len ns j
  have := tx_get (ts := texts ns j) (p := p) (by omega)
  exact List.mem_of_getElem? this
theorem dist_lt (ns : List Int) {p q : Nat} (h : p < q) (hq : q ≤ 8) : tx (texts ns 8) p ≠ tx (texts ns 8) q := fun e => by
  rw [texts_new ns hq (by omega)] at e
  have h1 : tx (texts ns 8) p = tx (texts ns (q - 1)) p := by rw [texts_get ns (j := 8) (by omega), texts_get ns (j := q - 1) (by omega)]
  have h2 := texts_mem ns (j := q - 1) (p := p) (by omega)
  rw [← h1, e] at h2
  have h3 := (cnt_spec (texts ns (q - 1)) (bareOf ns (texts ns (q - 1)) q)).2
  have h4 : (texts ns (q - 1)).contains (newOf ns (texts ns (q - 1)) q) = true := List.contains_iff_mem.mpr h2
  unfold newOf at h4
  rw [h4] at h3; cases h3
theorem told_of (ns : List Int) : Told9 (above ns 8) (texts ns 8) where
  tree := tree_of ns
  len := texts_len ns 8
  zero := by rw [texts_get ns (Nat.zero_le 8)]; rfl
  step := fun p h0 h8 => by
    have hu := upOf_lt ns h0
    rw [texts_new ns h8 h0, above_get ns h0 h8]
    have e : tx (texts ns 8) (upOf ns p) = tx (texts ns (p - 1)) (upOf ns p) := by rw [texts_get ns (j := 8) (by omega), texts_get ns (j := p - 1) (by omega)]
    obtain ⟨m1, m2⟩ := marks_ok _ (mkOf_mem ns p)
    refine ⟨slOf ns p, mkOf ns p ++ as' (cnt (texts ns (p - 1)) (bareOf ns (texts ns (p - 1)) p)), ?_, fun h => ?_, fun h => ?_, fun h => ?_, slOf_le ns p⟩
    · unfold newOf
      rw [e]
      show tx _ _ ++ sl _ ++ mkOf ns p ++ _ = _
      simp only [List.append_assoc]
    · exact m1 (List.append_eq_nil_iff.mp h).1
    · rcases List.mem_append.mp h with h | h
      · exact m2 h
      · have := List.eq_of_mem_replicate h; omega
    · unfold slOf; rw [if_neg h]; omega
  dist := fun p q hp hq e => by
    rcases Nat.lt_trichotomy p q with h | h | h
    · exact absurd e (dist_lt ns h hq)
    · exact h
    · exact absurd e.symm (dist_lt ns h hp)
  bound := txl ns
end Mine

namespace Mine
variable {Γ : Cfg} {n : Nat} {env : Env} {ρ : List (Str × D)} {X : List Addr} {s₀ s : Shared} {pins : List (Addr × Obj)} {π : Pv} {A : Around} {Q : Flow → Shared → Prop} {E : Value → Shared → Prop} {rest : List Stmt}

/-! ## chains -/
section
variable {ab : List Nat} {ts : List (List Nat)}
theorem chn_zero (ab : List Nat) : ∀ f, chn ab f 0 = []
  | 0 => rfl
  | _ + 1 => rfl
theorem chn_succ (ab : List Nat) {f p : Nat} (h : p ≠ 0) : chn ab (f + 1) p = chn ab f (up ab p) ++ [p] := if_neg h
theorem chn_fuel (T : Tree ab) : ∀ (n p : Nat), p ≤ n → p ≤ 8 → ∀ f g, p ≤ f → p ≤ g → chn ab f p = chn ab g p
  | _, 0, _, _, f, g, _, _ => (chn_zero ab f).trans (chn_zero ab g).symm
  | n + 1, p + 1, hn, h8, f + 1, g + 1, hf, hg => by
    have hlt := T.lt (p + 1) (Nat.succ_pos p) h8
    have h1 : up ab (p + 1) ≤ p := Nat.le_of_lt_succ hlt
    have hp8 : up ab (p + 1) ≤ 8 := Nat.le_trans (Nat.le_of_lt hlt) h8
    rw [chn_succ ab (Nat.succ_ne_zero p), chn_succ ab (Nat.succ_ne_zero p), chn_fuel T n (up ab (p + 1)) (Nat.le_trans h1 (Nat.le_of_succ_le_succ hn)) hp8 f g (Nat.le_trans h1 (Nat.le_of_succ_le_succ hf)) (Nat.le_trans h1 (Nat.le_of_succ_le_succ hg))]
noncomputable abbrev ch (ab : List Nat) (p : Nat) : List Nat := chn ab 8 p
theorem ch_zero : ch ab 0 = [] := by show chn ab 8 0 = []; simp [chn]
theorem ch_step (T : Tree ab) {p : Nat} (h0 : 0 < p) (h8 : p ≤ 8) : ch ab p = ch ab (up ab p) ++ [p] := by
  have hlt := T.lt p h0 h8
  have e : chn ab (7 + 1) p = if p = 0 then [] else chn ab 7 (up ab p) ++ [p] := rfl
  show chn ab (7 + 1) p = chn ab 8 (up ab p) ++ [p]
  rw [e, if_neg (by omega), chn_fuel T _ (up ab p) (Nat.le_refl _) (by omega) 7 8 (by omega) (by omega)]
/-- climbing induction -/
theorem climb (T : Tree ab) {P : Nat → Prop} (h0 : P 0) (hs : ∀ p, 0 < p → p ≤ 8 → P (up ab p) → P p) : ∀ p, p ≤ 8 → P p := by
  intro p
  induction p using Nat.strongRecOn with
  | ind p ih =>
    intro h8
    by_cases hp : p = 0
    · subst hp; exact h0
    · have hlt := T.lt p (by omega) h8
      exact hs p (by omega) h8 (ih _ hlt (by omega))
theorem ch_mem (T : Tree ab) : ∀ p, p ≤ 8 → ∀ q ∈ ch ab p, 0 < q ∧ q ≤ p := by
  refine climb T (fun q hq => by rw [ch_zero] at hq; cases hq) fun p h0 h8 ih q hq => ?_
  rw [ch_step T h0 h8] at hq
  have hlt := T.lt p h0 h8
  rcases List.mem_append.mp hq with h | h
  · have := ih q h; omega
  · have : q = p := by simpa using h
    omega
theorem ch_self (T : Tree ab) {p : Nat} (h0 : 0 < p) (h8 : p ≤ 8) : p ∈ ch ab p := by
  rw [ch_step T h0 h8]; simp
theorem ch_pre (T : Tree ab) : ∀ p, p ≤ 8 → ∀ q ∈ ch ab p, ∃ r, ch ab p = ch ab q ++ r := by
  refine climb T (fun q hq => by rw [ch_zero] at hq; cases hq) fun p h0 h8 ih q hq => ?_
  have e := ch_step T h0 h8
  rw [e] at hq
  rcases List.mem_append.mp hq with h | h
  · obtain ⟨r, hr⟩ := ih q h
    exact ⟨r ++ [p], by rw [e, hr, List.append_assoc]⟩
  · have : q = p := by simpa using h
    subst this; exact ⟨[], by simp⟩
theorem ch_inc (T : Tree ab) : ∀ p, p ≤ 8 → (ch ab p).Pairwise (· < ·) := by
  refine climb T (by rw [ch_zero]; exact List.Pairwise.nil) fun p h0 h8 ih => ?_
  rw [ch_step T h0 h8]
  have hlt := T.lt p h0 h8
  refine List.pairwise_append.mpr ⟨ih, by simp, fun a ha b hb => ?_⟩
  have := ch_mem T _ (by omega) a ha
  have : b = p := by simpa using hb
  omega
theorem ch_last (T : Tree ab) {p : Nat} (h8 : p ≤ 8) : p = (ch ab p).getLast?.getD 0 := by
  by_cases h0 : p = 0
  · subst h0; rw [ch_zero]; rfl
  · rw [ch_step T (by omega) h8]; simp
theorem ch_inj (T : Tree ab) {p q : Nat} (hp : p ≤ 8) (hq : q ≤ 8) (e : ch ab p = ch ab q) : p = q := by
  rw [ch_last T hp, ch_last T hq, e]
/-- a chain that begins with another -/
theorem ch_of_pre (T : Tree ab) : ∀ p, p ≤ 8 → ∀ q, q ≤ 8 → ∀ r, ch ab p = ch ab q ++ r → q = 0 ∨ q ∈ ch ab p := by
  intro p hp q hq r e
  by_cases h0 : q = 0
  · exact .inl h0
  · right
    rw [e]
    exact List.mem_append_left _ (ch_self T (by omega) hq)

/-! ## rows -/
noncomputable abbrev row (ab : List Nat) (ts : List (List Nat)) (p : Nat) : List (List Nat) := (ch ab p).map (tx ts)
theorem row_zero : row ab ts 0 = [] := by show (ch ab 0).map _ = []; rw [ch_zero]; rfl
theorem row_step (T : Tree ab) {p : Nat} (h0 : 0 < p) (h8 : p ≤ 8) : row ab ts p = row ab ts (up ab p) ++ [tx ts p] := by
  show (ch ab p).map _ = _
  rw [ch_step T h0 h8, List.map_append]; rfl
theorem map_inj {l l' : List Nat} {f : Nat → List Nat} : (∀ a ∈ l, ∀ b ∈ l', f a = f b → a = b) → l.map f = l'.map f → l = l' := by
  induction l generalizing l' with
  | nil => intro _ e; cases l' <;> simp_all
  | cons a l ih =>
    intro h e
    cases l' with
    | nil => simp at e
    | cons b l' =>
      simp only [List.map_cons, List.cons.injEq] at e
      have h1 := h a (by simp) b (by simp) e.1
      have h2 := ih (fun x hx y hy => h x (by simp [hx]) y (by simp [hy])) e.2
      rw [h1, h2]
theorem row_pre (H : Told9 ab ts) {p q : Nat} (hp : p ≤ 8) (hq : q ≤ 8) {r : List (List Nat)} (e : row ab ts p = row ab ts q ++ r) : q = 0 ∨ q ∈ ch ab p := by
  have e1 : (ch ab p).take (ch ab q).length = ch ab q := by
    refine map_inj (f := tx ts) (fun a ha b hb he => H.dist a b ?_ ?_ he) ?_
    · have := ch_mem H.tree p hp a (List.mem_of_mem_take ha); omega
    · have := ch_mem H.tree q hq b hb; omega
    · rw [List.map_take]
      show (row ab ts p).take _ = _
      rw [e, List.take_append_of_le_length (by simp)]
      rw [List.take_of_length_le (by simp)]
  refine ch_of_pre H.tree p hp q hq ((ch ab p).drop (ch ab q).length) ?_
  conv => lhs; rw [← List.take_append_drop (ch ab q).length (ch ab p), e1]
theorem row_inj (H : Told9 ab ts) {p q : Nat} (hp : p ≤ 8) (hq : q ≤ 8) (e : row ab ts p = row ab ts q) : p = q := by
  refine ch_inj H.tree hp hq (map_inj (f := tx ts) (fun a ha b hb he => H.dist a b ?_ ?_ he) e)
  · have := ch_mem H.tree p hp a ha; omega
  · have := ch_mem H.tree q hq b hb; omega
end
end Mine

namespace Mine
variable {Γ : Cfg} {n : Nat} {env : Env} {ρ : List (Str × D)} {X : List Addr} {s₀ s : Shared} {pins : List (Addr × Obj)} {π : Pv} {A : Around} {Q : Flow → Shared → Prop} {E : Value → Shared → Prop} {rest : List Stmt}

/-! ## the order of rows -/
noncomputable abbrev Rw := List (List Nat)
theorem tl_irrefl (a : List Nat) : ¬ a < a := List.lt_irrefl a
theorem tl_trans {a b c : List Nat} (h : a < b) (h' : b < c) : a < c := List.lt_trans h h'
theorem tl_tri (a b : List Nat) : a < b ∨ a = b ∨ b < a := by
  by_cases h : a < b
  · exact .inl h
  · by_cases h' : b < a
    · exact .inr (.inr h')
    · exact .inr (.inl (List.le_antisymm (List.not_lt.mp h') (List.not_lt.mp h)))

/-- the order of rows, told anew -/
noncomputable def rl : Rw → Rw → Prop
  | [], [] => False
  | [], _ :: _ => True
  | _ :: _, [] => False
  | x :: xs, y :: ys => x < y ∨ (x = y ∧ rl xs ys)
theorem rl_irrefl : ∀ a : Rw, ¬ rl a a
  | [], h => h
  | x :: xs, h => by
    rcases h with h | ⟨_, h⟩
    · exact tl_irrefl x h
    · exact rl_irrefl xs h
theorem rl_trans : ∀ {a b c : Rw}, rl a b → rl b c → rl a c
  | [], [], _, h, _ => h.elim
  | [], _ :: _, [], _, h => h.elim
  | [], _ :: _, _ :: _, _, _ => trivial
  | _ :: _, [], _, h, _ => h.elim
  | _ :: _, _ :: _, [], _, h => h.elim
  | x :: xs, y :: ys, z :: zs, h, h' => by
    rcases h with h | ⟨rfl, h⟩
    · rcases h' with h' | ⟨rfl, _⟩
      · exact .inl (tl_trans h h')
      · exact .inl h
    · rcases h' with h' | ⟨rfl, h'⟩
      · exact .inl h'
      · exact .inr ⟨rfl, rl_trans h h'⟩
theorem rl_asymm {a b : Rw} (h : rl a b) (h' : rl b a) : False := rl_irrefl a (rl_trans h h')
theorem rl_tri : ∀ a b : Rw, rl a b ∨ a = b ∨ rl b a
  | [], [] => .inr (.inl rfl)
  | [], _ :: _ => .inl trivial
  | _ :: _, [] => .inr (.inr trivial)
  | x :: xs, y :: ys => by
    rcases tl_tri x y with h | rfl | h
    · exact .inl (.inl h)
    · rcases rl_tri xs ys with h | rfl | h
      · exact .inl (.inr ⟨rfl, h⟩)
      · exact .inr (.inl rfl)
      · exact .inr (.inr (.inr ⟨rfl, h⟩))
    · exact .inr (.inr (.inl h))
theorem rl_longer : ∀ (a : Rw) (x : List Nat) (r : Rw), rl a (a ++ x :: r)
  | [], _, _ => trivial
  | _ :: a, x, r => .inr ⟨rfl, rl_longer a x r⟩
theorem rl_app : ∀ (a : Rw) {b c : Rw}, rl b c → rl (a ++ b) (a ++ c)
  | [], _, _, h => h
  | _ :: a, _, _, h => .inr ⟨rfl, rl_app a h⟩
theorem rl_part (a : Rw) {x y : List Nat} (h : x < y) (r r' : Rw) : rl (a ++ x :: r) (a ++ y :: r') := rl_app a (.inl h)
/-- between a and what a begins, all begins with a -/
theorem rl_between : ∀ {a b r : Rw}, ¬ rl b a → ¬ rl (a ++ r) b → ∃ s, b = a ++ s
  | [], b, _, _, _ => ⟨b, rfl⟩
  | x :: a, [], _, h, _ => absurd trivial h
  | x :: a, y :: b, r, h, h' => by
    rcases tl_tri x y with hx | rfl | hx
    · exact absurd (.inl hx) h'
    · obtain ⟨s, rfl⟩ := rl_between (a := a) (b := b) (r := r) (fun q => h (.inr ⟨rfl, q⟩)) (fun q => h' (.inr ⟨rfl, q⟩))
      exact ⟨s, rfl⟩
    · exact absurd (.inl hx) h
/-- where they part -/
theorem rl_parts : ∀ {a b : Rw}, rl a b → (∃ y s, b = a ++ y :: s) ∨ ∃ c x y r s, a = c ++ x :: r ∧ b = c ++ y :: s ∧ x < y
  | [], [], h => h.elim
  | [], y :: s, _ => .inl ⟨y, s, rfl⟩
  | _ :: _, [], h => h.elim
  | x :: a, y :: b, h => by
    rcases h with h | ⟨rfl, h⟩
    · exact .inr ⟨[], x, y, a, b, rfl, rfl, h⟩
    · rcases rl_parts h with ⟨y, s, rfl⟩ | ⟨c, x', y', r, s, rfl, rfl, hlt⟩
      · exact .inl ⟨y, s, rfl⟩
      · exact .inr ⟨x :: c, x', y', r, s, rfl, rfl, hlt⟩

theorem ltL_rl : ∀ a b : Rw, ltL a b = true ↔ rl a b
  | [], [] => by simp [ltL, rl]
  | [], _ :: _ => by simp [ltL, rl]
  | _ :: _, [] => by simp [ltL, rl]
  | x :: xs, y :: ys => by
    rw [ltL]
    show _ ↔ (x < y ∨ (x = y ∧ rl xs ys))
    by_cases h : x = y
    · subst h
      rw [if_pos rfl, ltL_rl xs ys]
      exact ⟨fun q => .inr ⟨rfl, q⟩, fun q => by
        rcases q with q | q
        · exact absurd q (tl_irrefl x)
        · exact q.2⟩
    · rw [if_neg h, decide_eq_true_eq]
      exact ⟨.inl, fun q => by
        rcases q with q | q
        · exact q
        · exact absurd q.1 h⟩
theorem gtL_rl (a b : Rw) : gtL a b = true ↔ rl b a := by rw [← ltL_eq, ltL_rl]

theorem cmp_lt {a b : Rw} (h : rl a b) : cmpL a b = -1 := by
  have h1 := (ltL_rl a b).mpr h
  have h2 : gtL a b = false := by
    rw [Bool.eq_false_iff]; intro q; exact rl_asymm h ((gtL_rl a b).mp q)
  unfold cmpL; rw [h1, h2]; rfl
theorem cmp_eq (a : Rw) : cmpL a a = 0 := by
  unfold cmpL; rw [ltL_eq]; omega
theorem cmp_gt {a b : Rw} (h : rl b a) : cmpL a b = 1 := by
  have h1 := (gtL_rl a b).mpr h
  have h2 : ltL a b = false := by
    rw [Bool.eq_false_iff]; intro q; exact rl_asymm h ((ltL_rl a b).mp q)
  unfold cmpL; rw [h1, h2]; rfl

/-! ## lists that rise are told by what is in them -/
theorem rise_uniq {α : Type} {R : α → α → Prop} (ha : ∀ a b, R a b → R b a → False) : ∀ {l l' : List α}, l.Pairwise R → l'.Pairwise R → (∀ x, x ∈ l ↔ x ∈ l') → l = l'
  | [], [], _, _, _ => rfl
  | [], y :: l', _, _, h => by have := (h y).mpr (by simp); cases this
  | x :: l, [], _, _, h => by have := (h x).mp (by simp); cases this
  | x :: l, y :: l', h1, h2, h => by
    rw [List.pairwise_cons] at h1 h2
    have hxy : x = y := by
      rcases List.mem_cons.mp ((h x).mp (by simp)) with e | e
      · exact e
      · rcases List.mem_cons.mp ((h y).mpr (by simp)) with e' | e'
        · exact e'.symm
        · exact (ha _ _ (h1.1 y e') (h2.1 x e)).elim
    subst hxy
    refine congrArg _ (rise_uniq ha h1.2 h2.2 fun z => ⟨fun hz => ?_, fun hz => ?_⟩)
    · rcases List.mem_cons.mp ((h z).mp (by simp [hz])) with e | e
      · subst e; exact (ha _ _ (h1.1 z hz) (h1.1 z hz)).elim
      · exact e
    · rcases List.mem_cons.mp ((h z).mpr (by simp [hz])) with e | e
      · subst e; exact (ha _ _ (h2.1 z hz) (h2.1 z hz)).elim
      · exact e
end Mine

namespace Mine
variable {Γ : Cfg} {n : Nat} {env : Env} {ρ : List (Str × D)} {X : List Addr} {s₀ s : Shared} {pins : List (Addr × Obj)} {π : Pv} {A : Around} {Q : Flow → Shared → Prop} {E : Value → Shared → Prop} {rest : List Stmt}

/-! ## the walk -/
section
variable {ab : List Nat} {ts : List (List Nat)}
theorem kids_nodup (top : Nat) : (kids ab ts top).Nodup := by
  unfold kids
  refine srt_perm.nodup_iff.mpr (List.Pairwise.filter _ ?_)
  decide
theorem kids_rise (H : Told9 ab ts) (top : Nat) : (kids ab ts top).Pairwise fun p q => tx ts p < tx ts q := by
  have h1 : (kids ab ts top).Pairwise fun p q => ¬ tx ts q < tx ts p := srt_pw
  have h2 := kids_nodup (ab := ab) (ts := ts) top
  refine (List.Pairwise.and_mem.mp (h1.and h2)).imp ?_
  rintro p q ⟨hp, hq, h3, h4⟩
  obtain ⟨⟨a1, a2⟩, _⟩ := mem_kids.mp hp
  obtain ⟨⟨b1, b2⟩, _⟩ := mem_kids.mp hq
  rcases tl_tri (tx ts p) (tx ts q) with h | h | h
  · exact h
  · exact absurd (H.dist p q a2 b2 h) h4
  · exact absurd h h3
theorem kid_chain (T : Tree ab) {top p : Nat} (h : p ∈ kids ab ts top) : ch ab p = ch ab top ++ [p] := by
  obtain ⟨⟨a1, a2⟩, a3⟩ := mem_kids.mp h
  rw [ch_step T a1 a2, a3]

noncomputable abbrev pre (ab : List Nat) (ts : List (List Nat)) (f p : Nat) : List Nat := (wlk (kids ab ts) f p).1
noncomputable abbrev pst (ab : List Nat) (ts : List (List Nat)) (f p : Nat) : List Nat := (wlk (kids ab ts) f p).2
theorem pre_succ (f top : Nat) : pre ab ts (f + 1) top = (kids ab ts top).flatMap fun p => p :: pre ab ts f p := rfl
theorem pst_succ (f top : Nat) : pst ab ts (f + 1) top = (kids ab ts top).flatMap fun p => pst ab ts f p ++ [p] := rfl
theorem pst_mem : ∀ (f top q : Nat), q ∈ pst ab ts f top ↔ q ∈ pre ab ts f top
  | 0, top, q => by simp [pre, pst, wlk]
  | f + 1, top, q => by
    rw [pre_succ, pst_succ, List.mem_flatMap, List.mem_flatMap]
    refine exists_congr fun p => and_congr_right fun _ => ?_
    rw [List.mem_append, List.mem_cons, pst_mem f p q]
    simp [or_comm]
/-- what lies below -/
theorem pre_below (T : Tree ab) : ∀ (f top q : Nat), q ∈ pre ab ts f top → q ≤ 8 ∧ ∃ c r, c ∈ kids ab ts top ∧ ch ab q = ch ab top ++ c :: r
  | 0, top, q, h => by simp [pre, wlk] at h
  | f + 1, top, q, h => by
    rw [pre_succ, List.mem_flatMap] at h
    obtain ⟨p, hp, hq⟩ := h
    have e := kid_chain T hp
    rcases List.mem_cons.mp hq with rfl | hq
    · exact ⟨(mem_kids.mp hp).1.2, q, [], hp, e⟩
    · obtain ⟨h8, c, r, _, e'⟩ := pre_below T f p q hq
      exact ⟨h8, p, c :: r, hp, by rw [e', e, List.append_assoc]; rfl⟩
theorem pre_part (T : Tree ab) {f top p q : Nat} (hp : p ∈ kids ab ts top) (hq : q ∈ p :: pre ab ts f p) : ∃ r, ch ab q = ch ab top ++ p :: r := by
  have e := kid_chain T hp
  rcases List.mem_cons.mp hq with rfl | hq
  · exact ⟨[], e⟩
  · obtain ⟨_, c, r, _, e'⟩ := pre_below T f p q hq
    exact ⟨c :: r, by rw [e', e, List.append_assoc]; rfl⟩

theorem pre_rise (H : Told9 ab ts) : ∀ (f top : Nat), (pre ab ts f top).Pairwise fun p q => rl (row ab ts p) (row ab ts q)
  | 0, top => by simp [pre, wlk]
  | f + 1, top => by
    rw [pre_succ, List.pairwise_flatMap]
    refine ⟨fun p hp => List.pairwise_cons.mpr ⟨fun q hq => ?_, pre_rise H f p⟩, ?_⟩
    · obtain ⟨_, c, r, _, e⟩ := pre_below H.tree f p q hq
      show rl _ ((ch ab q).map _)
      rw [e, List.map_append]
      exact rl_longer _ _ _
    · refine (List.Pairwise.and_mem.mp (kids_rise H top)).imp ?_
      rintro p p' ⟨hp, hp', hlt⟩ x hx y hy
      obtain ⟨r, e⟩ := pre_part H.tree hp hx
      obtain ⟨r', e'⟩ := pre_part H.tree hp' hy
      show rl ((ch ab x).map _) ((ch ab y).map _)
      rw [e, e', List.map_append, List.map_append]
      exact rl_part _ hlt _ _

/-- the key of the way back -/
noncomputable def zr (ts : List (List Nat)) (q : Nat) : List Nat := 0 :: tx ts q
noncomputable def kb (ab : List Nat) (ts : List (List Nat)) (p : Nat) : Rw := (ch ab p).map (zr ts) ++ [[1]]
theorem zr_lt {p q : Nat} (h : tx ts p < tx ts q) : zr ts p < zr ts q := List.cons_lt_cons_self.mpr h
theorem zr_end (p : Nat) : zr ts p < [1] := List.cons_lt_cons_iff.mpr (.inl (by decide))
theorem kb_below {p q c : Nat} {r : List Nat} (e : ch ab q = ch ab p ++ c :: r) : rl (kb ab ts q) (kb ab ts p) := by
  unfold kb
  rw [e, List.map_append, List.append_assoc]
  exact rl_part _ (zr_end c) _ _
theorem kb_part {p q a b : Nat} {s r r' : List Nat} (hlt : tx ts a < tx ts b) (e : ch ab p = s ++ a :: r) (e' : ch ab q = s ++ b :: r') : rl (kb ab ts p) (kb ab ts q) := by
  unfold kb
  rw [e, e', List.map_append, List.map_append, List.append_assoc, List.append_assoc]
  exact rl_part _ (zr_lt hlt) _ _

theorem pst_rise (H : Told9 ab ts) : ∀ (f top : Nat), (pst ab ts f top).Pairwise fun p q => rl (kb ab ts p) (kb ab ts q)
  | 0, top => by simp [pst, wlk]
  | f + 1, top => by
    rw [pst_succ, List.pairwise_flatMap]
    refine ⟨fun p hp => List.pairwise_append.mpr ⟨pst_rise H f p, by simp, fun q hq y hy => ?_⟩, ?_⟩
    · have : y = p := by simpa using hy
      subst this
      obtain ⟨_, c, r, _, e⟩ := pre_below H.tree f y q ((pst_mem f y q).mp hq)
      exact kb_below e
    · have conv : ∀ {p x}, x ∈ pst ab ts f p ++ [p] → x ∈ p :: pre ab ts f p := fun {p x} h => by
        rcases List.mem_append.mp h with h | h
        · exact List.mem_cons_of_mem _ ((pst_mem f p x).mp h)
        · have : x = p := by simpa using h
          subst this; simp
      refine (List.Pairwise.and_mem.mp (kids_rise H top)).imp ?_
      rintro p p' ⟨hp, hp', hlt⟩ x hx y hy
      obtain ⟨r, e⟩ := pre_part H.tree hp (conv hx)
      obtain ⟨r', e'⟩ := pre_part H.tree hp' (conv hy)
      exact kb_part hlt e e'

/-- all places are walked -/
theorem pre_kids (T : Tree ab) : ∀ (f top : Nat), 9 ≤ top + f → ∀ p ∈ pre ab ts f top, ∀ q ∈ kids ab ts p, q ∈ pre ab ts f top
  | 0, top, h, p, hp, q, hq => by simp [pre, wlk] at hp
  | f + 1, top, h, p, hp, q, hq => by
    rw [pre_succ, List.mem_flatMap] at hp ⊢
    obtain ⟨k, hk, hpk⟩ := hp
    obtain ⟨⟨k1, k2⟩, k3⟩ := mem_kids.mp hk
    have hlt := T.lt k (by omega) k2
    refine ⟨k, hk, ?_⟩
    rcases List.mem_cons.mp hpk with rfl | hpk
    · obtain ⟨g, rfl⟩ : ∃ g, f = g + 1 := ⟨f - 1, by omega⟩
      refine List.mem_cons_of_mem _ ?_
      rw [pre_succ, List.mem_flatMap]
      exact ⟨q, hq, by simp⟩
    · exact List.mem_cons_of_mem _ (pre_kids T f k (by omega) p hpk q hq)
theorem pre_all (T : Tree ab) : ∀ q, q ≤ 8 → 0 < q → q ∈ pre ab ts 9 0 := by
  refine climb T (fun h => by omega) fun q h0 h8 ih _ => ?_
  have hk : q ∈ kids ab ts (up ab q) := mem_kids.mpr ⟨⟨h0, h8⟩, rfl⟩
  by_cases hu : up ab q = 0
  · rw [pre_succ, List.mem_flatMap]
    exact ⟨q, hu ▸ hk, by simp⟩
  · exact pre_kids T 9 0 (by omega) (up ab q) (ih (by omega)) q hk
theorem pre_iff (T : Tree ab) (q : Nat) : q ∈ pre ab ts 9 0 ↔ 0 < q ∧ q ≤ 8 := by
  refine ⟨fun h => ?_, fun h => pre_all T q h.2 h.1⟩
  obtain ⟨h8, c, r, _, e⟩ := pre_below T 9 0 q h
  refine ⟨?_, h8⟩
  rcases Nat.eq_zero_or_pos q with rfl | h
  · rw [ch_zero] at e; simp at e
  · exact h
theorem pst_iff (T : Tree ab) (q : Nat) : q ∈ pst ab ts 9 0 ↔ 0 < q ∧ q ≤ 8 := (pst_mem 9 0 q).trans (pre_iff T q)
end
end Mine

namespace Mine
variable {Γ : Cfg} {n : Nat} {env : Env} {ρ : List (Str × D)} {X : List Addr} {s₀ s : Shared} {pins : List (Addr × Obj)} {π : Pv} {A : Around} {Q : Flow → Shared → Prop} {E : Value → Shared → Prop} {rest : List Stmt}

/-! ## ranks -/
section
variable {ab : List Nat} {ts : List (List Nat)}
theorem row_lt_zero (H : Told9 ab ts) {q : Nat} (h0 : 0 < q) (h8 : q ≤ 8) : rl (row ab ts 0) (row ab ts q) := by
  rw [row_zero, row_step H.tree h0 h8]
  cases row ab ts (up ab q) <;> trivial
theorem all_rise (H : Told9 ab ts) : (0 :: pre ab ts 9 0).Pairwise fun p q => rl (row ab ts p) (row ab ts q) :=
  List.pairwise_cons.mpr ⟨fun q hq => let ⟨h0, h8⟩ := (pre_iff H.tree q).mp hq; row_lt_zero H h0 h8, pre_rise H 9 0⟩
theorem all_mem (H : Told9 ab ts) {q : Nat} (h : q ≤ 8) : q ∈ 0 :: pre ab ts 9 0 := by
  rcases Nat.eq_zero_or_pos q with rfl | h0
  · simp
  · exact List.mem_cons_of_mem _ (pre_all H.tree q h h0)
theorem rank_lt (H : Told9 ab ts) {p q : Nat} (hp : p ≤ 8) (hq : q ≤ 8) (h : rl (row ab ts p) (row ab ts q)) : (0 :: pre ab ts 9 0).idxOf p < (0 :: pre ab ts 9 0).idxOf q := by
  have h1 := List.idxOf_lt_length_iff.mpr (all_mem H hp)
  have h2 := List.idxOf_lt_length_iff.mpr (all_mem H hq)
  have e1 := List.getElem_idxOf h1
  have e2 := List.getElem_idxOf h2
  have P := List.pairwise_iff_getElem.mp (all_rise H)
  rcases Nat.lt_trichotomy ((0 :: pre ab ts 9 0).idxOf p) ((0 :: pre ab ts 9 0).idxOf q) with c | c | c
  · exact c
  · have : p = q := by rw [← e1, ← e2]; simp only [c]
    subst this; exact absurd h (rl_irrefl _)
  · have := P _ _ h2 h1 c
    rw [e1, e2] at this
    exact (rl_asymm h this).elim
theorem cmp_rank (H : Told9 ab ts) {p q : Nat} (hp : p ≤ 8) (hq : q ≤ 8) : cmpL (row ab ts p) (row ab ts q) = cmpN ((0 :: pre ab ts 9 0).idxOf p) ((0 :: pre ab ts 9 0).idxOf q) := by
  rcases rl_tri (row ab ts p) (row ab ts q) with h | h | h
  · have := rank_lt H hp hq h
    rw [cmp_lt h]; unfold cmpN
    rw [if_neg (by omega), if_neg (by omega)]
  · have : p = q := row_inj H hp hq h
    subst this
    rw [cmp_eq]; unfold cmpN; rw [if_pos rfl]
  · have := rank_lt H hq hp h
    rw [cmp_gt h]; unfold cmpN
    rw [if_neg (by omega), if_pos this]
theorem rank_le (H : Told9 ab ts) {p q : Nat} (hp : p ≤ 8) (hq : q ≤ 8) (h : (0 :: pre ab ts 9 0).idxOf p ≤ (0 :: pre ab ts 9 0).idxOf q) : ¬ rl (row ab ts q) (row ab ts p) := fun h' => by
  have := rank_lt H hq hp h'
  omega
end

theorem count_lt {a b : Nat} (hab : a < b) : ∀ {l : List Nat}, a ∈ l → (l.map fun r => cmpN a r).count 1 < (l.map fun r => cmpN b r).count 1 := by
  have key : ∀ a r : Nat, ((cmpN a r == 1) = true) ↔ r < a := fun a r => by
    unfold cmpN
    split
    · subst_vars; simp
    · split
      · simp; assumption
      · simp; omega
  have mono : ∀ l : List Nat, (l.map fun r => cmpN a r).count 1 ≤ (l.map fun r => cmpN b r).count 1 := fun l => by
    induction l with
    | nil => simp
    | cons r l ih =>
      rw [List.map_cons, List.map_cons, List.count_cons, List.count_cons]
      by_cases h : r < a
      · rw [if_pos ((key a r).mpr h), if_pos ((key b r).mpr (by omega))]; omega
      · rw [if_neg fun q => h ((key a r).mp q)]; omega
  intro l hl
  induction l with
  | nil => cases hl
  | cons r l ih =>
    rw [List.map_cons, List.map_cons, List.count_cons, List.count_cons]
    rcases List.mem_cons.mp hl with rfl | hl
    · rw [if_neg fun q => by have := (key a a).mp q; omega, if_pos ((key b a).mpr hab)]
      have := mono l; omega
    · have := ih hl
      by_cases h : r < a
      · rw [if_pos ((key a r).mpr h), if_pos ((key b r).mpr (by omega))]; omega
      · rw [if_neg fun q => h ((key a r).mp q)]; omega

/-! ## what two lists do not share -/
theorem uo_filter : ∀ (e m c : List (List Nat)), e.Nodup → c.Nodup → uo e m c = (m ++ e.filter (fun x => !c.contains x), c.filter fun x => !e.contains x)
  | [], m, c, _, _ => by simp [uo, filt_true]
  | x :: r, m, c, he, hc => by
    rw [List.nodup_cons] at he
    unfold uo
    by_cases hx : c.contains x = true
    · rw [if_pos hx, uo_filter r m (c.erase x) he.2 (List.Nodup.erase _ hc), hc.erase_eq_filter]
      refine Prod.ext ?_ ?_
      · dsimp only
        rw [List.filter_cons, if_neg (by rw [hx]; decide)]
        refine congrArg _ (List.filter_congr fun y hy => ?_)
        have hyx : y ≠ x := by rintro rfl; exact he.1 hy
        rw [Bool.eq_iff_iff]; simp [hyx]
      · dsimp only
        rw [List.filter_filter]
        refine List.filter_congr fun y _ => ?_
        rw [Bool.eq_iff_iff]; simp; 
        constructor
        · rintro ⟨a, b⟩; exact ⟨b, a⟩
        · rintro ⟨a, b⟩; exact ⟨b, a⟩
    · rw [if_neg hx, uo_filter r (m ++ [x]) c he.2 hc]
      refine Prod.ext ?_ ?_
      · dsimp only
        rw [List.filter_cons, if_pos (by simpa using hx), List.append_assoc]; rfl
      · dsimp only
        refine List.filter_congr fun y hy => ?_
        have hyx : y ≠ x := by rintro rfl; exact hx (List.contains_iff_mem.mpr hy)
        rw [Bool.eq_iff_iff]; simp [hyx]
theorem mdiff_filter : ∀ (n : Nat) (xs ys : List (List Nat)), xs.length + ys.length ≤ n → xs.Pairwise (· < ·) → ys.Pairwise (· < ·) → mdiff xs ys = (xs.filter (fun x => !ys.contains x), ys.filter fun x => !xs.contains x)
  | n, [], ys, _, _, _ => by rw [mdiff_nil]; simp [filt_true]
  | n, x :: xs, [], _, _, _ => by rw [mdiff_nil2]; simp [filt_true]
  | 0, x :: xs, y :: ys, h, _, _ => by simp at h
  | n + 1, x :: xs, y :: ys, h, hx, hy => by
    have hx' := List.pairwise_cons.mp hx
    have hy' := List.pairwise_cons.mp hy
    simp only [List.length_cons] at h
    rw [mdiff_cons]
    by_cases c1 : x < y
    · rw [if_pos c1, mdiff_filter n xs (y :: ys) (by simp; omega) hx'.2 hy]
      have h1 : (y :: ys).contains x = false := by
        rw [Bool.eq_false_iff]; intro q
        rcases List.mem_cons.mp (List.contains_iff_mem.mp q) with rfl | q
        · exact tl_irrefl _ c1
        · exact tl_irrefl _ (tl_trans c1 (hy'.1 x q))
      refine Prod.ext ?_ ?_
      · dsimp only
        conv => rhs; rw [List.filter_cons, if_pos (by rw [h1]; rfl)]
      · dsimp only
        refine List.filter_congr fun z hz => ?_
        have hzx : z ≠ x := by rintro rfl; rw [List.contains_iff_mem.mpr hz] at h1; cases h1
        rw [Bool.eq_iff_iff]; simp [hzx]
    · rw [if_neg c1]
      by_cases c2 : y < x
      · rw [if_pos c2, mdiff_filter n (x :: xs) ys (by simp; omega) hx hy'.2]
        have h1 : (x :: xs).contains y = false := by
          rw [Bool.eq_false_iff]; intro q
          rcases List.mem_cons.mp (List.contains_iff_mem.mp q) with rfl | q
          · exact tl_irrefl _ c2
          · exact tl_irrefl _ (tl_trans c2 (hx'.1 y q))
        refine Prod.ext ?_ ?_
        · dsimp only
          refine List.filter_congr fun z hz => ?_
          have hzy : z ≠ y := by rintro rfl; rw [List.contains_iff_mem.mpr hz] at h1; cases h1
          rw [Bool.eq_iff_iff]; simp [hzy]
        · dsimp only
          conv => rhs; rw [List.filter_cons, if_pos (by rw [h1]; rfl)]
      · rw [if_neg c2]
        have e : x = y := by
          rcases tl_tri x y with q | q | q
          · exact absurd q c1
          · exact q
          · exact absurd q c2
        subst e
        rw [mdiff_filter n xs ys (by omega) hx'.2 hy'.2]
        refine Prod.ext ?_ ?_
        · dsimp only
          rw [List.filter_cons, if_neg (by simp)]
          refine List.filter_congr fun z hz => ?_
          have hzx : z ≠ x := by rintro rfl; exact tl_irrefl _ (hx'.1 z hz)
          rw [Bool.eq_iff_iff]; simp [hzx]
        · dsimp only
          rw [List.filter_cons, if_neg (by simp)]
          refine List.filter_congr fun z hz => ?_
          have hzx : z ≠ x := by rintro rfl; exact tl_irrefl _ (hy'.1 z hz)
          rw [Bool.eq_iff_iff]; simp [hzx]
end Mine

namespace Mine
variable {Γ : Cfg} {n : Nat} {env : Env} {ρ : List (Str × D)} {X : List Addr} {s₀ s : Shared} {pins : List (Addr × Obj)} {π : Pv} {A : Around} {Q : Flow → Shared → Prop} {E : Value → Shared → Prop} {rest : List Stmt}

/-! ## from stop to stop -/
section
variable {ab : List Nat} {ts : List (List Nat)}
noncomputable def dn (ab : List Nat) (h x : Nat) : List Nat := (ch ab x).filter fun q => !(ch ab h).contains q
noncomputable def lf (ab : List Nat) (h x : Nat) : List Nat := (ch ab h).reverse.filter fun q => !(ch ab x).contains q
theorem mem_dn {h x q : Nat} : q ∈ dn ab h x ↔ q ∈ ch ab x ∧ q ∉ ch ab h := by unfold dn; rw [List.mem_filter]; simp
theorem mem_lf {h x q : Nat} : q ∈ lf ab h x ↔ q ∈ ch ab h ∧ q ∉ ch ab x := by unfold lf; rw [List.mem_filter]; simp

theorem kb_row (p : Nat) : kb ab ts p = (row ab ts p).map (fun t => 0 :: t) ++ [[1]] := by
  unfold kb
  show _ = ((ch ab p).map (tx ts)).map _ ++ _
  rw [List.map_map]; rfl
theorem row_of_mem (T : Tree ab) {p q : Nat} (hp : p ≤ 8) (h : q ∈ ch ab p) : ∃ r, row ab ts p = row ab ts q ++ r := by
  obtain ⟨r, e⟩ := ch_pre T p hp q h
  refine ⟨r.map (tx ts), ?_⟩
  show (ch ab p).map _ = _
  rw [e, List.map_append]
theorem not_before {a r : Rw} : ¬ rl (a ++ r) a := fun h => by
  cases r with
  | nil => rw [List.append_nil] at h; exact rl_irrefl _ h
  | cons x r => exact rl_asymm h (rl_longer a x r)
/-- what lies between a place and one below it is below the place -/
theorem between (H : Told9 ab ts) {q h x : Nat} (hq : 0 < q) (hx : x ≤ 8) (hh : h ≤ 8) (hqx : q ∈ ch ab x) (h1 : ¬ rl (row ab ts h) (row ab ts q)) (h2 : ¬ rl (row ab ts x) (row ab ts h)) : q ∈ ch ab h := by
  obtain ⟨r, e⟩ := row_of_mem (ts := ts) H.tree hx hqx
  have hq8 := (ch_mem H.tree x hx q hqx).2
  rw [e] at h2
  obtain ⟨s, e'⟩ := rl_between h1 h2
  rcases row_pre H hh (by omega) e' with h0 | h0
  · omega
  · exact h0
theorem le_lt {a b c : Rw} (h : ¬ rl b a) (h' : rl b c) : rl a c := by
  rcases rl_tri a b with q | rfl | q
  · exact rl_trans q h'
  · exact h'
  · exact absurd q h
/-- a place that was left lies ahead of all on the way to where one stands -/
theorem cross (H : Told9 ab ts) {u h v : Nat} (hu : 0 < u) (hu8 : u ≤ 8) (hh : h ≤ 8) (hle : ¬ rl (row ab ts h) (row ab ts u)) (hn : u ∉ ch ab h) (hv : v ∈ ch ab h) : rl (kb ab ts u) (kb ab ts v) := by
  have hv0 := ch_mem H.tree h hh v hv
  by_cases hvu : v ∈ ch ab u
  · obtain ⟨r, e⟩ := ch_pre H.tree u hu8 v hvu
    cases r with
    | nil =>
      have : u = v := ch_inj H.tree hu8 (by omega) (by rw [e, List.append_nil])
      subst this; exact absurd hv hn
    | cons c r => exact kb_below e
  · have hlt : rl (row ab ts u) (row ab ts v) := by
      rcases rl_tri (row ab ts u) (row ab ts v) with q | q | q
      · exact q
      · have : u = v := row_inj H hu8 (by omega) q
        subst this; exact absurd hv hn
      · exact absurd (between H hv0.1 hh hu8 hv (rl_asymm q) hle) hvu
    rcases rl_parts hlt with ⟨y, s, e⟩ | ⟨c, x, y, r, s, e1, e2, hxy⟩
    · exfalso
      rcases row_pre H (p := v) (q := u) (by omega) hu8 e with h0 | h0
      · omega
      · obtain ⟨r, e'⟩ := ch_pre H.tree h hh v hv
        exact hn (by rw [e']; exact List.mem_append_left _ h0)
    · rw [kb_row, kb_row, e1, e2, List.map_append, List.map_append, List.append_assoc, List.append_assoc]
      exact rl_part _ (List.cons_lt_cons_self.mpr hxy) _ _

structure Inv (ab : List Nat) (ts : List (List Nat)) (S : List Nat) (h : Nat) (D U : List Nat) : Prop where
  hh : h ≤ 8
  s8 : ∀ k ∈ S, k ≤ 8
  chD : ∀ q ∈ ch ab h, q ∈ D
  rise : D.Pairwise fun p q => rl (row ab ts p) (row ab ts q)
  max : ∀ q ∈ D, ¬ rl (row ab ts h) (row ab ts q)
  mem : ∀ q, q ∈ D ↔ ∃ k ∈ S, q ∈ ch ab k
  urise : U.Pairwise fun p q => rl (kb ab ts p) (kb ab ts q)
  umem : ∀ q, q ∈ U ↔ q ∈ D ∧ q ∉ ch ab h
theorem Inv.start : Inv ab ts [] 0 [] [] := by
  refine ⟨by omega, by simp, ?_, .nil, by simp, by simp, .nil, by simp⟩
  intro q hq; rw [ch_zero] at hq; cases hq
theorem Inv.bd {S h D U} (T : Tree ab) (I : Inv ab ts S h D U) {q : Nat} (hq : q ∈ D) : 0 < q ∧ q ≤ 8 := by
  obtain ⟨k, hk, hq⟩ := (I.mem q).mp hq
  have := ch_mem T k (I.s8 k hk) q hq
  have := I.s8 k hk
  omega
theorem ch_rise (T : Tree ab) {x : Nat} (hx : x ≤ 8) : (ch ab x).Pairwise fun p q => ∃ c r, ch ab q = ch ab p ++ c :: r := by
  refine (List.Pairwise.and_mem.mp (ch_inc T x hx)).imp ?_
  rintro p q ⟨hp, hq, hlt⟩
  obtain ⟨r, e⟩ := ch_pre T x hx p hp
  obtain ⟨r', e'⟩ := ch_pre T x hx q hq
  have hq8 := ch_mem T x hx q hq
  have hp8 := ch_mem T x hx p hp
  have hmem : p ∈ ch ab q := by
    rw [e'] at hp
    rcases List.mem_append.mp hp with h | h
    · exact h
    · exfalso
      have hI := ch_inc T x hx
      rw [e', List.pairwise_append] at hI
      have := hI.2.2 q (ch_self T hq8.1 (by omega)) p h
      omega
  obtain ⟨s, es⟩ := ch_pre T q (by omega) p hmem
  cases s with
  | nil =>
    have : q = p := ch_inj T (by omega) (by omega) (by rw [es, List.append_nil])
    omega
  | cons c s => exact ⟨c, s, es⟩
theorem row_longer {p q c : Nat} {r : List Nat} (e : ch ab q = ch ab p ++ c :: r) : rl (row ab ts p) (row ab ts q) := by
  show rl _ ((ch ab q).map _)
  rw [e, List.map_append]
  exact rl_longer _ _ _

theorem Inv.step {S h D U x} (H : Told9 ab ts) (I : Inv ab ts S h D U) (hx : x ≤ 8) (hle : ¬ rl (row ab ts x) (row ab ts h)) : Inv ab ts (S ++ [x]) x (D ++ dn ab h x) (U ++ lf ab h x) := by
  have T := H.tree
  refine ⟨hx, fun k hk => ?_, fun q hq => ?_, ?_, fun q hq => ?_, fun q => ?_, ?_, fun q => ?_⟩
  · rcases List.mem_append.mp hk with h | h
    · exact I.s8 k h
    · have : k = x := by simpa using h
      subst this; exact hx
  · by_cases hc : q ∈ ch ab h
    · exact List.mem_append_left _ (I.chD q hc)
    · exact List.mem_append_right _ (mem_dn.mpr ⟨hq, hc⟩)
  · refine List.pairwise_append.mpr ⟨I.rise, (List.Pairwise.filter _ (ch_rise T hx)).imp fun ⟨c, r, e⟩ => row_longer e, fun q hq v hv => ?_⟩
    obtain ⟨hv1, hv2⟩ := mem_dn.mp hv
    have hv0 := ch_mem T x hx v hv1
    refine le_lt (I.max q hq) ?_
    rcases rl_tri (row ab ts h) (row ab ts v) with c | c | c
    · exact c
    · have : h = v := row_inj H I.hh (by omega) c
      subst this
      exact absurd (ch_self T hv0.1 (by omega)) hv2
    · exact absurd (between H hv0.1 hx I.hh hv1 (rl_asymm c) hle) hv2
  · rcases List.mem_append.mp hq with h1 | h1
    · intro h2
      exact hle (rl_trans h2 (by
        rcases rl_tri (row ab ts q) (row ab ts h) with c | c | c
        · exact c
        · rw [c] at h2; exact absurd h2 hle
        · exact absurd c (I.max q h1)))
    · obtain ⟨r, e⟩ := row_of_mem (ts := ts) T hx (mem_dn.mp h1).1
      rw [e]; exact not_before
  · rw [List.mem_append, mem_dn, I.mem]
    constructor
    · rintro (⟨k, hk, hq⟩ | ⟨hq, _⟩)
      · exact ⟨k, List.mem_append_left _ hk, hq⟩
      · exact ⟨x, by simp, hq⟩
    · rintro ⟨k, hk, hq⟩
      rcases List.mem_append.mp hk with h1 | h1
      · exact .inl ⟨k, h1, hq⟩
      · have : k = x := by simpa using h1
        subst this
        by_cases hc : q ∈ ch ab h
        · exact .inl ((I.mem q).mp (I.chD q hc))
        · exact .inr ⟨hq, hc⟩
  · refine List.pairwise_append.mpr ⟨I.urise, List.Pairwise.filter _ (List.pairwise_reverse.mpr ((ch_rise T I.hh).imp fun ⟨c, r, e⟩ => kb_below e)), fun u hu v hv => ?_⟩
    obtain ⟨hu1, hu2⟩ := (I.umem u).mp hu
    obtain ⟨b1, b2⟩ := I.bd T hu1
    exact cross H b1 b2 I.hh (I.max u hu1) hu2 (mem_lf.mp hv).1
  · rw [List.mem_append, List.mem_append, mem_lf, mem_dn, I.umem]
    constructor
    · rintro (⟨h1, h2⟩ | ⟨h1, h2⟩)
      · refine ⟨.inl h1, fun hc => h2 ?_⟩
        exact between H (I.bd T h1).1 hx I.hh hc (I.max q h1) hle
      · exact ⟨.inl (I.chD q h1), h2⟩
    · rintro ⟨h1 | h1, h2⟩
      · by_cases hc : q ∈ ch ab h
        · exact .inr ⟨hc, h2⟩
        · exact .inl ⟨h1, hc⟩
      · exact absurd h1.1 h2

/-- the stops, one behind the other -/
noncomputable def pst3 (ab : List Nat) (w : Nat × List Nat × List Nat) (x : Nat) : Nat × List Nat × List Nat := (x, w.2.1 ++ dn ab w.1 x, w.2.2 ++ lf ab w.1 x)
theorem Inv.run (H : Told9 ab ts) : ∀ (l S : List Nat) (w : Nat × List Nat × List Nat), Inv ab ts S w.1 w.2.1 w.2.2 → (∀ x ∈ l, x ≤ 8 ∧ ¬ rl (row ab ts x) (row ab ts w.1)) → l.Pairwise (fun x y => ¬ rl (row ab ts y) (row ab ts x)) →
    Inv ab ts (S ++ l) (l.foldl (pst3 ab) w).1 (l.foldl (pst3 ab) w).2.1 (l.foldl (pst3 ab) w).2.2
  | [], S, w, I, _, _ => by simpa using I
  | x :: l, S, w, I, hl, hp => by
    rw [List.pairwise_cons] at hp
    have hx := hl x (by simp)
    have := Inv.run H l (S ++ [x]) (pst3 ab w x) (I.step H hx.1 hx.2) (fun y hy => ⟨(hl y (by simp [hy])).1, hp.1 y hy⟩) hp.2
    simpa using this
end
end Mine

namespace Mine
variable {Γ : Cfg} {n : Nat} {env : Env} {ρ : List (Str × D)} {X : List Addr} {s₀ s : Shared} {pins : List (Addr × Obj)} {π : Pv} {A : Around} {Q : Flow → Shared → Prop} {E : Value → Shared → Prop} {rest : List Stmt}

/-! ## names and their forebears -/
section
variable {ab : List Nat} {ts : List (List Nat)}
theorem noEnd_of (H : Told9 ab ts) {p : Nat} (hp : p ≤ 8) : NoEnd (tx ts p) := by
  unfold NoEnd
  rcases Nat.eq_zero_or_pos p with rfl | h0
  · rw [H.zero]; simp
  · obtain ⟨s, e, h1, h2, h3, _⟩ := H.step p h0 hp
    rw [h1]
    intro h
    rw [List.getLast?_append] at h
    cases he : e.getLast? with
    | none => rw [List.getLast?_eq_none_iff] at he; exact h2 he
    | some y =>
      rw [he] at h
      have hy : y = 47 := by simpa using h
      subst hy
      exact h3 (List.mem_of_getLast? he)
theorem sl_succ (i : Nat) : sl (i + 1) = sl i ++ [47] := List.replicate_succ'
theorem strip_uniq {a b : List Nat} (ha : NoEnd a) (hb : NoEnd b) : ∀ {i j : Nat}, a ++ sl i = b ++ sl j → a = b
  | 0, 0, h => by simpa [sl] using h
  | 0, j + 1, h => by
    exfalso; apply ha
    have h' : a = b ++ sl (j + 1) := by simpa [sl] using h
    rw [h', sl_succ, ← List.append_assoc]; simp
  | i + 1, 0, h => by
    exfalso; apply hb
    have h' : b = a ++ sl (i + 1) := by simpa [sl] using h.symm
    rw [h', sl_succ, ← List.append_assoc]; simp
  | i + 1, j + 1, h => by
    rw [sl_succ, sl_succ, ← List.append_assoc, ← List.append_assoc] at h
    exact strip_uniq ha hb (List.append_cancel_right h)

noncomputable def plc (ts : List (List Nat)) (nm : List Nat) : Nat := ((List.range 9).find? fun p => nm == tx ts p ++ sl (nm.length - (tx ts p).length)).getD 0
noncomputable def acOf (ab : List Nat) (ts : List (List Nat)) (nm : List Nat) : List (List Nat) := (row ab ts (plc ts nm)).reverse
theorem plc_of (H : Told9 ab ts) {p j : Nat} (hp : p ≤ 8) : plc ts (tx ts p ++ sl j) = p := by
  unfold plc
  cases hf : (List.range 9).find? fun q => (tx ts p ++ sl j) == tx ts q ++ sl ((tx ts p ++ sl j).length - (tx ts q).length) with
  | none =>
    rw [List.find?_eq_none] at hf
    have := hf p (List.mem_range.mpr (by omega))
    exfalso; apply this
    rw [beq_iff_eq]
    congr 2
    simp
  | some q =>
    have h1 := List.find?_some hf
    have h2 := List.mem_range.mp (List.mem_of_find?_eq_some hf)
    rw [beq_iff_eq] at h1
    have := strip_uniq (noEnd_of H hp) (noEnd_of H (p := q) (by omega)) h1
    exact (H.dist p q hp (by omega) this).symm
theorem acOf_nm (H : Told9 ab ts) {p j : Nat} (hp : p ≤ 8) : acOf ab ts (tx ts p ++ sl j) = (row ab ts p).reverse := by
  unfold acOf; rw [plc_of H hp]

noncomputable def AStep (t : Nat → List Nat) (i : Nat) : Prop := NoEnd (t i) ∧ t i ≠ [] ∧ (t i).length ≤ 1000 ∧ ∃ P k e, t i = P ++ sl k ++ e ∧ (P = [] ∨ 0 < k) ∧ NoEnd P ∧ 47 ∉ e ∧ headOf P k = t (i + 1)
theorem ac_steps (H : Told9 ab ts) : ∀ p, p ≤ 8 → 0 < p → ∃ t : Nat → List Nat, t 0 = tx ts p ∧ (∀ i, i < (ch ab p).length → AStep t i) ∧ (∃ k, t (ch ab p).length = sl k ∧ k ≤ 1000) ∧ (row ab ts p).reverse = (List.range (ch ab p).length).map t := by
  refine climb H.tree (fun h => by omega) fun p h0 h8 ih _ => ?_
  obtain ⟨s, e, h1, h2, h3, h4, h5⟩ := H.step p h0 h8
  have hne := noEnd_of H h8
  have hnil : tx ts p ≠ [] := fun h => by rw [h] at h1; exact h2 (List.append_eq_nil_iff.mp h1.symm).2
  have hb := H.bound p
  have hr := row_step (ts := ts) H.tree h0 h8
  have hc := ch_step H.tree h0 h8
  have hlt := H.tree.lt p h0 h8
  by_cases hu : up ab p = 0
  · have hr0 : row ab ts (up ab p) = [] := by rw [hu]; exact row_zero
    have hc0 : ch ab (up ab p) = [] := by rw [hu]; exact ch_zero
    rw [hr0] at hr
    rw [hc0] at hc
    refine ⟨fun i => if i = 0 then tx ts p else sl s, rfl, fun i hi => ?_, ⟨s, ?_, by omega⟩, ?_⟩
    · rw [hc] at hi
      have : i = 0 := by simp at hi; exact hi
      subst this
      refine ⟨hne, hnil, by show (tx ts p).length ≤ 1000; omega, [], s, e, ?_, .inl rfl, by unfold NoEnd; simp, h3, rfl⟩
      show tx ts p = _
      rw [h1, hu, H.zero]
    · rw [hc]; rfl
    · rw [hr, hc]; rfl
  · obtain ⟨t, t0, t1, t2, t3⟩ := ih (by omega)
    have hl : (ch ab p).length = (ch ab (up ab p)).length + 1 := by rw [hc]; simp
    refine ⟨fun i => match i with | 0 => tx ts p | i + 1 => t i, rfl, fun i hi => ?_, ?_, ?_⟩
    · cases i with
      | zero =>
        refine ⟨hne, hnil, by show (tx ts p).length ≤ 1000; omega, tx ts (up ab p), s, e, h1, .inr (h4 hu), noEnd_of H (by omega), h3, ?_⟩
        show headOf _ _ = t 0
        rw [t0]
        unfold headOf
        rw [if_neg fun h => hu (H.dist _ 0 (by omega) (by omega) (by rw [h, H.zero]))]
      | succ i => exact t1 i (by omega)
    · rw [hl]; exact t2
    · rw [hr, hl, List.reverse_append, t3, List.range_succ_eq_map, List.map_cons, List.map_map]; rfl
theorem acs_of (H : Told9 ab ts) {p j : Nat} (hp : p ≤ 8) (hj : j ≤ 100) : Acs (acOf ab ts) (tx ts p ++ sl j) := by
  have hb := H.bound p
  have hl : (tx ts p ++ sl j).length ≤ 1000 := by simp; omega
  rcases Nat.eq_zero_or_pos p with rfl | h0
  · refine ⟨0, fun _ => [], ⟨⟨j, by rw [H.zero], by unfold NoEnd; simp, hl⟩, fun i hi => by omega, ⟨0, rfl, by omega⟩⟩, by omega, ?_⟩
    rw [acOf_nm H hp, row_zero]; rfl
  · obtain ⟨t, t0, t1, t2, t3⟩ := ac_steps H p hp h0
    refine ⟨(ch ab p).length, t, ⟨⟨j, by rw [t0], by rw [t0]; exact noEnd_of H hp, hl⟩, t1, t2⟩, ?_, ?_⟩
    · have := chn_len ab 8 p
      show (chn ab 8 p).length ≤ 20; omega
    · rw [acOf_nm H hp, t3]

/-! ## rows as texts rise -/
theorem lt_longer : ∀ (a : List Nat) (x : Nat) (r : List Nat), a < a ++ x :: r
  | [], _, _ => List.nil_lt_cons _ _
  | y :: a, x, r => List.cons_lt_cons_self.mpr (lt_longer a x r)
theorem tx_below (H : Told9 ab ts) : ∀ p, p ≤ 8 → ∀ q ∈ ch ab p, ∃ r, tx ts p = tx ts q ++ r := by
  refine climb H.tree (fun q hq => by rw [ch_zero] at hq; cases hq) fun p h0 h8 ih q hq => ?_
  obtain ⟨s, e, h1, _⟩ := H.step p h0 h8
  rw [ch_step H.tree h0 h8] at hq
  rcases List.mem_append.mp hq with h | h
  · obtain ⟨r, e'⟩ := ih q h
    exact ⟨r ++ sl s ++ e, by rw [h1, e']; simp only [List.append_assoc]⟩
  · have : q = p := by simpa using h
    subst this; exact ⟨[], by simp⟩
theorem row_texts (H : Told9 ab ts) {x : Nat} (hx : x ≤ 8) : (row ab ts x).Pairwise (· < ·) := by
  show ((ch ab x).map _).Pairwise _
  rw [List.pairwise_map]
  refine (List.Pairwise.and_mem.mp (ch_rise H.tree hx)).imp ?_
  rintro p q ⟨hp, hq, c, r, e⟩
  have hp8 := ch_mem H.tree x hx p hp
  have hq8 := ch_mem H.tree x hx q hq
  have hpq : p ∈ ch ab q := by rw [e]; exact List.mem_append_left _ (ch_self H.tree hp8.1 (by omega))
  obtain ⟨s, es⟩ := tx_below H q (by omega) p hpq
  cases s with
  | nil =>
    have : q = p := H.dist q p (by omega) (by omega) (by rw [es, List.append_nil])
    subst this
    have := congrArg List.length e
    simp at this
  | cons y s => rw [es]; exact lt_longer _ _ _
theorem adj_of {xs : List (List Nat)} (h : xs.Pairwise (· < ·)) : Adj xs := fun i a b ha hb e => by
  obtain ⟨h1, e1⟩ := List.getElem?_eq_some_iff.mp ha
  obtain ⟨h2, e2⟩ := List.getElem?_eq_some_iff.mp hb
  have := List.pairwise_iff_getElem.mp h i (i + 1) h1 h2 (by omega)
  rw [e1, e2, e] at this
  exact tl_irrefl _ this
theorem pw_nodup {xs : List (List Nat)} (h : xs.Pairwise (· < ·)) : xs.Nodup := h.imp fun h e => by subst e; exact tl_irrefl _ h

theorem con_map (H : Told9 ab ts) {l : List Nat} (hl : ∀ q ∈ l, q ≤ 8) {q : Nat} (hq : q ≤ 8) : (l.map (tx ts)).contains (tx ts q) = l.contains q := by
  rw [Bool.eq_iff_iff, List.contains_iff_mem, List.contains_iff_mem, List.mem_map]
  constructor
  · rintro ⟨a, ha, e⟩
    rw [← H.dist a q (hl a ha) hq e]; exact ha
  · exact fun h => ⟨q, h, rfl⟩
theorem ch8 (T : Tree ab) {x : Nat} (hx : x ≤ 8) : ∀ q ∈ ch ab x, q ≤ 8 := fun q hq => by
  have := ch_mem T x hx q hq; omega
theorem filt_map (H : Told9 ab ts) {l l' : List Nat} (hl : ∀ q ∈ l, q ≤ 8) (hl' : ∀ q ∈ l', q ≤ 8) : (l.map (tx ts)).filter (fun t => !(l'.map (tx ts)).contains t) = (l.filter fun q => !l'.contains q).map (tx ts) := by
  rw [List.filter_map]
  refine congrArg _ (List.filter_congr fun q hq => ?_)
  show (!(l'.map (tx ts)).contains (tx ts q)) = _
  rw [con_map H hl' (hl q hq)]
theorem mdiff_row (H : Told9 ab ts) {x y : Nat} (hx : x ≤ 8) (hy : y ≤ 8) : mdiff (row ab ts x) (row ab ts y) = (apart (ch ab x) (ch ab y) ts, apart (ch ab y) (ch ab x) ts) := by
  rw [mdiff_filter _ _ _ (Nat.le_refl _) (row_texts H hx) (row_texts H hy)]
  unfold apart
  exact Prod.ext (filt_map H (ch8 H.tree hx) (ch8 H.tree hy)) (filt_map H (ch8 H.tree hy) (ch8 H.tree hx))
theorem uo_row (H : Told9 ab ts) {h x : Nat} (hh : h ≤ 8) (hx : x ≤ 8) : uo (row ab ts x) [] (row ab ts h).reverse = ((dn ab h x).map (tx ts), (lf ab h x).map (tx ts)) := by
  rw [uo_filter _ _ _ (pw_nodup (row_texts H hx)) (List.pairwise_reverse.mpr ((pw_nodup (row_texts H hh)).imp fun h => Ne.symm h))]
  refine Prod.ext ?_ ?_
  · show [] ++ _ = _
    rw [List.nil_append]
    unfold dn
    rw [← filt_map H (ch8 H.tree hx) (ch8 H.tree hh)]
    refine List.filter_congr fun t _ => ?_
    rw [Bool.eq_iff_iff]; simp
  · show (((ch ab h).map (tx ts)).reverse).filter _ = _
    unfold lf
    rw [← filt_map H (l := (ch ab h).reverse) (fun q hq => ch8 H.tree hh q (List.mem_reverse.mp hq)) (ch8 H.tree hx), ← List.map_reverse]

theorem wf_run (H : Told9 ab ts) {ac : List Nat → List (List Nat)} {nm : Nat → List Nat} {st : Nat → Nat} (hst : ∀ k, st k ≤ 8) (hac : ∀ k, ac (nm k) = (row ab ts (st k)).reverse) :
    ∀ (l : List Nat) (x₀ : List Nat) (w : Nat × List Nat × List Nat), w.1 ≤ 8 → ac x₀ = (row ab ts w.1).reverse →
    ∃ x₁, (l.map nm).foldl (wstep ac) (x₀, w.2.1.map (tx ts), w.2.2.map (tx ts)) = (x₁, ((l.map st).foldl (pst3 ab) w).2.1.map (tx ts), ((l.map st).foldl (pst3 ab) w).2.2.map (tx ts)) ∧
      ac x₁ = (row ab ts ((l.map st).foldl (pst3 ab) w).1).reverse ∧ ((l.map st).foldl (pst3 ab) w).1 ≤ 8
  | [], x₀, w, h8, h => ⟨x₀, rfl, h, h8⟩
  | k :: l, x₀, w, h8, h => by
    have e : wstep ac (x₀, w.2.1.map (tx ts), w.2.2.map (tx ts)) (nm k) = (nm k, (pst3 ab w (st k)).2.1.map (tx ts), (pst3 ab w (st k)).2.2.map (tx ts)) := by
      unfold wstep pst3
      dsimp only
      rw [hac, h, List.reverse_reverse, uo_row H h8 (hst k), List.map_append, List.map_append]
    rw [List.map_cons, List.foldl_cons, e, List.map_cons, List.foldl_cons]
    exact wf_run H hst hac l (nm k) (pst3 ab w (st k)) (hst k) (hac k)
end
end Mine

namespace Mine
variable {Γ : Cfg} {n : Nat} {env : Env} {ρ : List (Str × D)} {X : List Addr} {s₀ s : Shared} {pins : List (Addr × Obj)} {π : Pv} {A : Around} {Q : Flow → Shared → Prop} {E : Value → Shared → Prop} {rest : List Stmt}

/-! ## the plain law -/
theorem plaw (ns : List Int) (hns : ns.length = 8) : ∃ ac, PLaw ac ns := by
  have H := told_of ns
  have T := H.tree
  obtain ⟨ab, hab⟩ : ∃ ab, ab = above ns 8 := ⟨_, rfl⟩
  obtain ⟨ts, hts⟩ : ∃ ts, ts = texts ns 8 := ⟨_, rfl⟩
  have hfo : fo ns = pre ab ts 9 0 := by rw [hab, hts]; rfl
  have hba : ba ns = pst ab ts 9 0 := by rw [hab, hts]; rfl
  have hch : ∀ k, chs ns k = ch ab (stopOf ns k) := fun k => by rw [hab]; rfl
  have hst := stopOf_le ns
  have hnm : ∀ k, nmOf ns (texts ns 8) k = tx ts (stopOf ns k) ++ sl (slashOf ns k) := fun k => by rw [hts]; rfl
  rw [← hab, ← hts] at H
  rw [← hab] at T
  have hac : ∀ k, acOf ab ts (nmOf ns (texts ns 8) k) = (row ab ts (stopOf ns k)).reverse := fun k => by rw [hnm]; exact acOf_nm H (hst k)
  have hrow : ∀ k, rowOf (acOf ab ts) ns k = row ab ts (stopOf ns k) := fun k => by
    unfold rowOf; rw [hac, List.reverse_reverse]
  have hrk : ∀ p, rnk ns p = (0 :: pre ab ts 9 0).idxOf p := fun p => by unfold rnk; rw [hfo]
  have hseen : ∀ q, (seenOf ns).contains q = true ↔ ∃ k, k < 8 ∧ q ∈ ch ab (stopOf ns k) := fun q => by
    rw [List.contains_iff_mem]
    unfold seenOf
    rw [List.mem_flatten]
    constructor
    · rintro ⟨l, hl, hq⟩
      obtain ⟨k, hk, rfl⟩ := List.mem_map.mp hl
      exact ⟨k, List.mem_range.mp hk, by rw [← hch]; exact hq⟩
    · rintro ⟨k, hk, hq⟩
      exact ⟨_, List.mem_map.mpr ⟨k, List.mem_range.mpr hk, rfl⟩, by rw [hch]; exact hq⟩
  have a0 : acOf ab ts [47] = [] := by
    have := acOf_nm H (p := 0) (j := 1) (by omega)
    rw [H.zero, row_zero] at this
    exact this
  have a1 : acOf ab ts [] = [] := by
    have := acOf_nm H (p := 0) (j := 0) (by omega)
    rw [H.zero, row_zero] at this
    exact this
  refine ⟨acOf ab ts, ⟨by rw [← hab]; exact T, by rw [← hts]; exact H.dist, fun k _ => ?_, ?_, ?_, fun k _ => ?_, fun i j _ _ => ?_, fun p hp => ?_, fun p hp => ?_, fun k _ p hp => ?_, fun k _ => ?_, fun l hp hpw => ?_, fun i j _ _ => ?_⟩⟩
  · rw [hnm]; exact acs_of H (hst k) (by have := slashOf_le ns k; omega)
  · have := acs_of H (p := 0) (j := 0) (by omega) (by omega)
    rw [H.zero] at this; exact this
  · have := acs_of H (p := 0) (j := 1) (by omega) (by omega)
    rw [H.zero] at this; exact this
  · rw [hfo]; exact all_mem H (hst k)
  · rw [hrow, hrow, hrk, hrk]; exact cmp_rank H (hst i) (hst j)
  · rw [hfo] at hp; exact ((pre_iff T p).mp hp).2
  · rw [hba] at hp; exact ((pst_iff T p).mp hp).2
  · rw [hch] at hp; exact ch8 T (hst k) p hp
  · rw [hrow]; exact adj_of (row_texts H (hst k))
  · have hl : ∀ k ∈ l, k < 8 := fun k hk => List.mem_range.mp (hp.subset hk)
    have hle : ∀ i j, i < 8 → j < 8 → grt ns i ≤ grt ns j → ¬ rl (row ab ts (stopOf ns j)) (row ab ts (stopOf ns i)) := fun i j hi hj h => by
      refine rank_le H (hst i) (hst j) ?_
      rw [← hrk, ← hrk]
      refine Nat.le_of_not_lt fun hlt => ?_
      have hm : rnk ns (stopOf ns j) ∈ (stops ns).map (rnk ns) := List.mem_map.mpr ⟨_, List.mem_map.mpr ⟨j, List.mem_range.mpr hj, rfl⟩, rfl⟩
      have := count_lt hlt hm
      unfold grt at h
      omega
    have hpw2 : (l.map (stopOf ns)).Pairwise fun x y => ¬ rl (row ab ts y) (row ab ts x) := by
      rw [List.pairwise_map]
      refine (List.Pairwise.and_mem.mp hpw).imp ?_
      rintro i j ⟨hi, hj, h⟩
      exact hle i j (hl i hi) (hl j hj) h
    have I := Inv.run H (l.map (stopOf ns)) [] (0, [], []) Inv.start (fun x hx => by
      obtain ⟨k, _, rfl⟩ := List.mem_map.mp hx
      refine ⟨hst k, fun h => ?_⟩
      dsimp only at h
      rw [row_zero] at h
      exact (show ∀ a : Rw, ¬ rl a [] from fun a => by cases a <;> exact id) _ h) hpw2
    rw [List.nil_append] at I
    obtain ⟨x₁, e1, e2, e3⟩ := wf_run H (ac := acOf ab ts) (nm := nmOf ns (texts ns 8)) (st := stopOf ns) hst hac l [] (0, [], []) (by show 0 ≤ 8; omega) (by rw [a1, row_zero]; rfl)
    generalize (l.map (stopOf ns)).foldl (pst3 ab) (0, [], []) = w at I e1 e2 e3
    obtain ⟨h, D, U⟩ := w
    dsimp only at I e1 e2 e3
    have ewf : wf (acOf ab ts) (l.map (nmOf ns (texts ns 8)) ++ [[47]]) = ([47], D.map (tx ts), (U ++ (ch ab h).reverse).map (tx ts)) := by
      rw [wf_snoc]
      have : wf (acOf ab ts) (l.map (nmOf ns (texts ns 8))) = (x₁, D.map (tx ts), U.map (tx ts)) := e1
      rw [this]
      unfold wstep
      dsimp only
      rw [a0, e2, List.map_append, List.map_reverse]
      show ([47], D.map (tx ts) ++ [], _) = _
      rw [List.append_nil]; rfl
    have memD : ∀ q, q ∈ D ↔ (seenOf ns).contains q = true := fun q => by
      rw [I.mem, hseen]
      constructor
      · rintro ⟨x, hx, hq⟩
        obtain ⟨k, hk, rfl⟩ := List.mem_map.mp hx
        exact ⟨k, hl k hk, hq⟩
      · rintro ⟨k, hk, hq⟩
        exact ⟨_, List.mem_map.mpr ⟨k, hp.symm.subset (List.mem_range.mpr hk), rfl⟩, hq⟩
    have eD : D = (fo ns).filter fun p => (seenOf ns).contains p := by
      rw [hfo]
      refine rise_uniq (fun a b => rl_asymm) I.rise (List.Pairwise.filter _ (pre_rise H 9 0)) fun q => ?_
      rw [List.mem_filter, pre_iff T, ← memD]
      exact ⟨fun hq => ⟨I.bd T hq, hq⟩, fun hq => hq.2⟩
    have eU : U ++ (ch ab h).reverse = (ba ns).filter fun p => (seenOf ns).contains p := by
      rw [hba]
      refine rise_uniq (R := fun p q => rl (kb ab ts p) (kb ab ts q)) (fun a b => rl_asymm) ?_ (List.Pairwise.filter _ (pst_rise H 9 0)) fun q => ?_
      · refine List.pairwise_append.mpr ⟨I.urise, List.pairwise_reverse.mpr ((ch_rise T I.hh).imp fun ⟨c, r, e⟩ => kb_below e), fun u hu v hv => ?_⟩
        obtain ⟨hu1, hu2⟩ := (I.umem u).mp hu
        obtain ⟨b1, b2⟩ := I.bd T hu1
        exact cross H b1 b2 I.hh (I.max u hu1) hu2 (List.mem_reverse.mp hv)
      · rw [List.mem_filter, pst_iff T, ← memD, List.mem_append, List.mem_reverse, I.umem]
        constructor
        · rintro (⟨h1, _⟩ | h1)
          · exact ⟨I.bd T h1, h1⟩
          · exact ⟨I.bd T (I.chD q h1), I.chD q h1⟩
        · rintro ⟨_, h1⟩
          by_cases hc : q ∈ ch ab h
          · exact .inr hc
          · exact .inl ⟨h1, hc⟩
    rw [ewf]
    unfold dueOf
    rw [← eD, ← eU, ← hts]
  · rw [hrow, hrow, hch, hch, ← hts]; exact mdiff_row H (hst i) (hst j)
end Mine

set_option maxHeartbeats 4000000 in
theorem PySem.Challenge.cw_in0304_01_holds : PySem.Challenge.rw_in0304_01.Holds := by
    (w_on; o_law; k_head; (case hw => w_witness2)); k_fill
    intro w s0 s1 mg mb G Y fa o pm cd doc dV kV ho hd hcd hD hmg hg args vals as hpre hlay hrd hwl hlo
    have KX := km_in_of Y
    km_tabs Y
    rename _ => hT8
    have X := (Ground.X G).1
    have V := (Ground.X G).2
    refine Ground.open G ?_
    intro T B D TE TW
    wrow_args hpre hlay hrd hwl hlo
    rename (¬ _) => hlen
    rename (Well _ _ _ _) => hW
    rename (IntsAre _ _) => hI
    have hm : ∀ x, mg x = nsFind _ x := Mine.ns_at T.g (KX 3 _ rfl) rfl
    have hn : ∀ x ∈ (["range", "sorted", "list", "len", "str", "type", "IndexError", "ValueError"] : List Str), mg x = none := fun x hx => T.free x (by revert x; decide +kernel) (by revert x; decide +kernel) (by revert x; decide +kernel) (by revert x; decide +kernel) (by revert x; decide +kernel)
    obtain ⟨Γ, hΓ⟩ : ∃ Γ : Mine.Cfg, Γ = ⟨PySem.Challenge.rw_in0304_01.row.prog, w, s1.heap, mg, mb⟩ := ⟨_, rfl⟩
    have ok : Γ.Ok := by
      subst hΓ
      exact ⟨T.g, T.b, T.nolimit, T.builtins, hT8 86 (by decide), hT8 103 (by decide), T.seer (by decide +kernel), rfl⟩
    have crec : ∀ {c : Addr} {o : Obj} {vs q t}, s1.heap.get? c = some o → o.data = .fields vs → vs[1]? = some (.str q t) → s1.heap.CodeRec (.ref c) q := fun e h1 h2 => ⟨_, _, _, _, rfl, e, h1, h2⟩
    have law : Mine.Law Γ := by
      subst hΓ
      refine ⟨ok, hn, ⟨_, (hm _).trans rfl⟩, ?_, ?_, ?_, ?_, ?_, ?_, ?_, ?_, ?_, ?_, ?_, ?_⟩
      · exact Mine.defd_of (KX 28 _ rfl) rfl (crec (KX _ _ rfl) rfl rfl) ((hm _).trans rfl) (by decide)
      · exact Mine.defd_of (KX 35 _ rfl) rfl (crec (KX _ _ rfl) rfl rfl) ((hm _).trans rfl) (by decide)
      · exact Mine.defd_of (KX 42 _ rfl) rfl (crec (KX _ _ rfl) rfl rfl) ((hm _).trans rfl) (by decide)
      · exact Mine.defd_of (KX 49 _ rfl) rfl (crec (KX _ _ rfl) rfl rfl) ((hm _).trans rfl) (by decide)
      · exact Mine.defd_of (KX 56 _ rfl) rfl (crec (KX _ _ rfl) rfl rfl) ((hm _).trans rfl) (by decide)
      · exact Mine.defd_of (KX 63 _ rfl) rfl (crec (KX _ _ rfl) rfl rfl) ((hm _).trans rfl) (by decide)
      · exact Mine.defd_of (KX 70 _ rfl) rfl (crec (KX _ _ rfl) rfl rfl) ((hm _).trans rfl) (by decide)
      · exact Mine.defd_of (KX 77 _ rfl) rfl (crec (KX _ _ rfl) rfl rfl) ((hm _).trans rfl) (by decide)
      · exact Mine.defd_of (KX 84 _ rfl) rfl (crec (KX _ _ rfl) rfl rfl) ((hm _).trans rfl) (by decide)
      · exact Mine.defd_of (KX 89 _ rfl) rfl (crec (KX _ _ rfl) rfl rfl) ((hm _).trans rfl) (by decide)
      · exact Mine.defd_of (KX 96 _ rfl) rfl (crec (KX _ _ rfl) rfl rfl) ((hm _).trans rfl) (by decide)
      · exact Mine.defd_of (KX 101 _ rfl) rfl (crec (KX _ _ rfl) rfl rfl) ((hm _).trans rfl) (by decide)
    have L3 : Mine.Law3 Γ := by
      refine ⟨⟨law, ?_, ?_, ?_⟩, ?_, ?_, ?_⟩ <;> subst hΓ
      · exact ⟨_, _, _, _, _, _, _, _, _, KX 88 _ rfl, rfl, rfl, rfl, rfl, rfl, rfl, rfl, rfl, by decide⟩
      · exact ⟨_, _, _, _, _, _, _, _, _, KX 105 _ rfl, rfl, rfl, rfl, rfl, rfl, rfl, rfl, rfl, by decide⟩
      · obtain ⟨bm, ob, b1, b2, b3, b4, b5, b6⟩ := T.bmain
        have e4 : mg "__builtins__" = some (.ref 4) := (hm _).trans rfl
        rw [e4] at b1; cases b1
        exact ⟨4, ob, e4, by decide, by decide, by decide, by decide, b3, b4, b5, b6⟩
      · intro o fd h1 h2
        rw [KX 89 _ rfl] at h1; cases h1; cases h2; rfl
      · intro o fd h1 h2
        rw [KX 106 _ rfl] at h1; cases h1; cases h2; rfl
      · exact Mine.defd_of (KX 106 _ rfl) rfl (crec (KX _ _ rfl) rfl rfl) ((hm _).trans rfl) (by decide)
    have hfa : fa = 106 := by
      have e : mg "law" = some (.ref 106) := (hm _).trans rfl
      have e2 : mg "law" = some (.ref fa) := hmg
      rw [e] at e2; cases e2; rfl
    subst hfa
    rename (Heap.IsList _ _ _) => hL
    cases hW with
    | list hw1 hw2 =>
      obtain ⟨ol, hl1, _, nl, hl2⟩ := hL
      rw [hw1] at hl1; cases hl1
      have hvs := congrArg Array.toList (Data.seq.inj hl2).1
      simp only [] at hvs
      rw [← hvs] at hI
      obtain ⟨ac, P⟩ := Mine.plaw (Mine.nums _) (Mine.nums_len _)
      subst hΓ
      refine Mine.law_end L3 (by omega) P rfl hg hw1 hI (fun _ => rfl) ?_
      first | rfl | wrow_post
