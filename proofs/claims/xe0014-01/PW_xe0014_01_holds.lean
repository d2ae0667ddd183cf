import PyProof.Rows.All
import Wide.All
import OpenK.AllK
import Wide.FinOn
import PySem.Challenge.RW_xe0014_01
open PySem PySem.W PyProof.Rows
set_option Elab.async false
set_option linter.unusedVariables false
set_option linter.unusedSimpArgs false
set_option maxRecDepth 100000

section
open PySem PySem.W PyProof.Rows PySem.Calls
namespace Mine

abbrev PG : Program := PySem.Challenge.pw_xe0014_01
abbrev tabs : List Addr := [96, 103]
abbrev tabObj (ps : Array Value) : Obj := { cls := .none, data := .fields ps }
abbrev NoE : Value → Shared → Prop := fun _ _ => False

inductive F where
  | none
  | bool (b : Bool)
  | int (i : Int)
  | str (s : List Nat)
  | tup (xs : List F)

theorem toE {α : Type} {M : Model} {A : Around} {t : Sem α} {Q : α → Shared → Prop} {E : Value → Shared → Prop} {s : Shared} (h : wpAny M A t Q NoE s) : wpAny M A t Q E s :=
  wpAny_mono h (fun _ _ x => x) fun _ _ x => x.elim

def NotTab (o : Obj) : Prop := o.cls ≠ .none ∨ ∀ ps, o.data ≠ .fields ps

structure Up (s s' : Shared) : Prop where
  os : s'.os = s.os
  gens : AllBare s.gens → AllBare s'.gens
  keep : ∀ b o, s.heap.get? b = some o → (b ∉ tabs ∨ NotTab o) → s'.heap.get? b = some o
  tab : ∀ P, P ∈ tabs → ∀ ps, s.heap.get? P = some (tabObj ps) → ∃ more, s'.heap.get? P = some (tabObj (ps ++ more))
  there : ∀ b o, s.heap.get? b = some o → ∃ o', s'.heap.get? b = some o'

theorem Up.refl (s : Shared) : Up s s := ⟨rfl, id, fun _ _ e _ => e, fun _ _ ps e => ⟨#[], by simpa using e⟩, fun _ o e => ⟨o, e⟩⟩
theorem Up.trans {a b c : Shared} (x : Up a b) (y : Up b c) : Up a c :=
  ⟨y.os.trans x.os, fun h => y.gens (x.gens h), fun q o e h => y.keep q o (x.keep q o e h) h, fun P hP ps e => by
    obtain ⟨m, e1⟩ := x.tab P hP ps e
    obtain ⟨m', e2⟩ := y.tab P hP _ e1
    exact ⟨m ++ m', by rw [e2, Array.append_assoc]⟩, fun q o e => let ⟨o', e'⟩ := x.there q o e; y.there q o' e'⟩
theorem Up.of {s : Shared} {h' : Heap} {tk : Nat} (hk : ∀ b o, s.heap.get? b = some o → h'.get? b = some o) : Up s { s with heap := h', toks := tk } :=
  ⟨rfl, id, fun b o e _ => hk b o e, fun P _ ps e => ⟨#[], by rw [Array.append_empty]; exact hk P _ e⟩, fun b o e => ⟨o, hk b o e⟩⟩
theorem Up.tok {s : Shared} {tk : Nat} : Up s { s with toks := tk } := Up.of (h' := s.heap) fun _ _ e => e
theorem Up.push {s : Shared} {o : Obj} {tk : Nat} : Up s { s with heap := s.heap.push o, toks := tk } := Up.of fun _ _ e => Heap.get?_push_of_some _ e
theorem Up.get {s s' : Shared} (u : Up s s') {b : Addr} {o : Obj} (e : s.heap.get? b = some o) (h : NotTab o) : s'.heap.get? b = some o := u.keep b o e (.inr h)

theorem Up.none {s s' : Shared} (u : Up s s') {b : Addr} (h : s'.heap.get? b = Option.none) : s.heap.get? b = Option.none := by
  cases e : s.heap.get? b with
  | none => rfl
  | some o => obtain ⟨o', e'⟩ := u.there b o e; rw [h] at e'; cases e'

/-- tuples stay -/
def KeepT (h h' : Heap) : Prop := ∀ b o, h.get? b = some o → o.cls = .type "tuple" → (∃ items n, o.data = .seq items n) → h'.get? b = some o
theorem KeepT.of {h h' : Heap} (k : ∀ b o, h.get? b = some o → h'.get? b = some o) : KeepT h h' := fun b o e _ _ => k b o e
theorem KeepT.trans {a b c : Heap} (x : KeepT a b) (y : KeepT b c) : KeepT a c := fun q o e h1 h2 => y q o (x q o e h1 h2) h1 h2
theorem KeepT.ns {h h' : Heap} {a : Addr} {m : Str → Option Value} (n : h.Ns a m) (hs : Heap.SameBut a h h') : KeepT h h' := fun b o e _ ⟨items, k, hd⟩ => by
  obtain ⟨o', es, ep, ho, hd', _⟩ := n
  have : b ≠ a := by rintro rfl; rw [e] at ho; cases ho; rw [hd] at hd'; cases hd'
  exact (hs.2 b this).trans e
theorem KeepT.cell {h h' : Heap} {a : Addr} {v : Option Value} (n : h.IsCell a v) (hs : Heap.SameBut a h h') : KeepT h h' := fun b o e _ ⟨items, k, hd⟩ => by
  obtain ⟨o', ho, hd'⟩ := n
  have : b ≠ a := by rintro rfl; rw [e] at ho; cases ho; rw [hd] at hd'; cases hd'
  exact (hs.2 b this).trans e
theorem notTab_tuple {o : Obj} (h : o.cls = .type "tuple") : NotTab o := .inl (by rw [h]; nofun)
theorem Up.keepT {s s' : Shared} (u : Up s s') : KeepT s.heap s'.heap := fun _ _ e hc _ => u.get e (notTab_tuple hc)

mutual
inductive RepF (h : Heap) : Value → F → Prop
  | none : RepF h .none .none
  | bool (b : Bool) : RepF h (.bool b) (.bool b)
  | int (i : Int) (t : Tok) : RepF h (.int i t) (.int i)
  | str (l : List Nat) (t : Tok) : RepF h (.str ⟨l.toArray⟩ t) (.str l)
  | tup {a : Addr} {vs : List Value} {xs : List F} : IsTup h a vs.toArray → RepFs h vs xs → RepF h (.ref a) (.tup xs)
inductive RepFs (h : Heap) : List Value → List F → Prop
  | nil : RepFs h [] []
  | cons {v : Value} {x : F} {vs : List Value} {xs : List F} : RepF h v x → RepFs h vs xs → RepFs h (v :: vs) (x :: xs)
end

theorem RepF.keepT {h h' : Heap} (k : KeepT h h') {v : Value} {x : F} (r : RepF h v x) : RepF h' v x := by
  refine RepF.rec (motive_1 := fun v x _ => RepF h' v x) (motive_2 := fun vs xs _ => RepFs h' vs xs) .none .bool .int .str ?_ .nil ?_ r
  · intro a vs xs ht _ ih
    obtain ⟨o, ho, hc, n, hd⟩ := ht
    exact .tup ⟨o, k a o ho hc ⟨_, n, hd⟩, hc, n, hd⟩ ih
  · intro v x vs xs _ _ a b; exact .cons a b
theorem RepFs.keepT {h h' : Heap} (k : KeepT h h') : ∀ {vs : List Value} {xs : List F}, RepFs h vs xs → RepFs h' vs xs
  | _, _, .nil => .nil
  | _, _, .cons a b => .cons (a.keepT k) (RepFs.keepT k b)
theorem RepFs.length {h : Heap} : ∀ {vs : List Value} {xs : List F}, RepFs h vs xs → vs.length = xs.length
  | _, _, .nil => rfl
  | _, _, .cons _ b => by simp [RepFs.length b]
theorem RepFs.snoc {h : Heap} {v : Value} {x : F} : ∀ {vs : List Value} {xs : List F}, RepFs h vs xs → RepF h v x → RepFs h (vs ++ [v]) (xs ++ [x])
  | _, _, .nil, r => .cons r .nil
  | _, _, .cons a b, r => .cons a (RepFs.snoc b r)
theorem RepFs.append {h : Heap} : ∀ {vs ws : List Value} {xs ys : List F}, RepFs h vs xs → RepFs h ws ys → RepFs h (vs ++ ws) (xs ++ ys)
  | _, _, _, _, .nil, r => r
  | _, _, _, _, .cons a b, r => .cons a (RepFs.append b r)
theorem RepFs.get {h : Heap} : ∀ {vs : List Value} {xs : List F} {i : Nat} {x : F}, RepFs h vs xs → xs[i]? = some x → ∃ v, vs[i]? = some v ∧ RepF h v x
  | _, _, _, _, .nil, e => by simp at e
  | _, _, 0, _, .cons a _, e => by simp at e; subst e; exact ⟨_, rfl, a⟩
  | _, _, i + 1, _, .cons _ b, e => by simpa using RepFs.get b (by simpa using e)
theorem RepFs.get' {h : Heap} : ∀ {vs : List Value} {xs : List F} {i : Nat} {v : Value}, RepFs h vs xs → vs[i]? = some v → ∃ x, xs[i]? = some x ∧ RepF h v x
  | _, _, _, _, .nil, e => by simp at e
  | _, _, 0, _, .cons a _, e => by simp at e; subst e; exact ⟨_, rfl, a⟩
  | _, _, i + 1, _, .cons _ b, e => by simpa using RepFs.get' b (by simpa using e)
theorem RepFs.take {h : Heap} : ∀ {vs : List Value} {xs : List F} (n : Nat), RepFs h vs xs → RepFs h (vs.take n) (xs.take n)
  | _, _, _, .nil => by simpa using RepFs.nil
  | _, _, 0, _ => by simpa using RepFs.nil
  | _, _, n + 1, .cons a b => .cons a (RepFs.take n b)
theorem RepFs.drop {h : Heap} : ∀ {vs : List Value} {xs : List F} (n : Nat), RepFs h vs xs → RepFs h (vs.drop n) (xs.drop n)
  | _, _, _, .nil => by simpa using RepFs.nil
  | _, _, 0, r => r
  | _, _, n + 1, .cons _ b => RepFs.drop n b

inductive D where
  | f (x : F)
  | list (xs : List F)
  | mlist (a : Addr) (xs : List F)
  | val (v : Value)
  | dict (a : Addr) (kvs : List (List Nat × List Nat))
  | pile (x dx : Addr) (xs : List F)

def D.notAt : D → Addr → Prop
  | .dict a _, L => a ≠ L
  | .pile x dx _, L => x ≠ L ∧ dx ≠ L
  | _, _ => True

abbrev listObj (vs : List Value) (n : Nat) : Obj := ⟨.type "list", none, .seq vs.toArray n, #[]⟩

def strKV (p : Str × Value) : List Nat × Option (List Nat) := (p.1.cps.toList, match p.2 with | .str y _ => some y.cps.toList | _ => none)
def Rep (w : World) (h : Heap) (v : Value) : D → Prop
  | .f x => RepF h v x
  | .list xs => ∃ a vs n, v = .ref a ∧ h.get? a = some (listObj vs n) ∧ RepFs h vs xs
  | .mlist a xs => v = .ref a ∧ ∃ vs n, h.get? a = some (listObj vs n) ∧ RepFs h vs xs
  | .val u => v = u
  | .dict a kvs => v = .ref a ∧ (a == sysModules) = false ∧ ∃ o kvs', h.get? a = some o ∧ o.IsDictOf (PySem.strKind PG w) kvs' ∧ kvs'.map strKV = kvs.map fun p => (p.1, some p.2)
  | .pile x dx xs => v = .ref x ∧ ∃ vs n es m, h.get? x = some ⟨.ref 133, some dx, .seq vs.toArray n, #[]⟩ ∧ h.get? dx = some ⟨.type "dict", none, .dict es m, #[]⟩ ∧
      (∃ hsh tk t, es = #[⟨hsh, .str "_initial_size" tk, .int 0 t⟩]) ∧ True ∧ True ∧ RepFs h vs xs

/-- lists, tuples, dicts and piles stay -/
def KeepD (L : Addr) (h h' : Heap) : Prop := ∀ b o, h.get? b = some o → ((∃ items n, o.data = .seq items n) ∨ (b ≠ L ∧ ∃ es n, o.data = .dict es n)) → h'.get? b = some o
theorem KeepD.keepT {L : Addr} {h h' : Heap} (k : KeepD L h h') : KeepT h h' := fun b o e _ hd => k b o e (.inl hd)
theorem KeepD.ns {h h' : Heap} {a : Addr} {m : Str → Option Value} (n : h.Ns a m) (hs : Heap.SameBut a h h') : KeepD a h h' := fun b o e hd => by
  rcases hd with ⟨items, k, hd⟩ | ⟨ne, _⟩
  · obtain ⟨o', es, ep, ho, hd', _⟩ := n
    have : b ≠ a := by rintro rfl; rw [e] at ho; cases ho; rw [hd] at hd'; cases hd'
    exact (hs.2 b this).trans e
  · exact (hs.2 b ne).trans e
theorem KeepD.cell {h h' : Heap} {a L : Addr} {v : Option Value} (n : h.IsCell a v) (hs : Heap.SameBut a h h') : KeepD L h h' := fun b o e hd => by
  obtain ⟨o', ho, hd'⟩ := n
  have : b ≠ a := by
    rintro rfl; rw [e] at ho; cases ho
    rcases hd with ⟨items, k, hd⟩ | ⟨_, es, k, hd⟩ <;> rw [hd] at hd' <;> cases hd'
  exact (hs.2 b this).trans e

theorem Rep.keepD {w : World} {L : Addr} {h h' : Heap} (k : KeepD L h h') {v : Value} : ∀ {d : D}, d.notAt L → Rep w h v d → Rep w h' v d
  | .f _, _, r => RepF.keepT k.keepT r
  | .list _, _, ⟨a, vs, n, e, ho, r⟩ => ⟨a, vs, n, e, k a _ ho (.inl ⟨_, _, rfl⟩), r.keepT k.keepT⟩
  | .mlist a _, _, ⟨e, vs, n, ho, r⟩ => ⟨e, vs, n, k a _ ho (.inl ⟨_, _, rfl⟩), r.keepT k.keepT⟩
  | .val _, _, r => r
  | .dict a _, ne, ⟨e, hm, o, kvs', ho, hd, r⟩ => ⟨e, hm, o, kvs', k a _ ho (.inr ⟨ne, let ⟨es, ep, _, q, _⟩ := hd; ⟨es, ep, q⟩⟩), hd, r⟩
  | .pile x dx _, ne, ⟨e, vs, n, es, m, h1, h2, r1, r2, r3, r⟩ => ⟨e, vs, n, es, m, k x _ h1 (.inl ⟨_, _, rfl⟩), k dx _ h2 (.inr ⟨ne.2, _, _, rfl⟩), r1, r2, r3, r.keepT k.keepT⟩
theorem Rep.up {w : World} {s s' : Shared} (u : Up s s') {v : Value} : ∀ {d : D}, Rep w s.heap v d → Rep w s'.heap v d
  | .f _, r => RepF.keepT u.keepT r
  | .list _, ⟨a, vs, n, e, ho, r⟩ => ⟨a, vs, n, e, u.get ho (.inl nofun), r.keepT u.keepT⟩
  | .mlist a _, ⟨e, vs, n, ho, r⟩ => ⟨e, vs, n, u.get ho (.inl nofun), r.keepT u.keepT⟩
  | .val _, r => r
  | .dict a _, ⟨e, hm, o, kvs', ho, hd, r⟩ => ⟨e, hm, o, kvs', u.get ho (.inr (let ⟨es, ep, _, q, _⟩ := hd; by rw [q]; nofun)), hd, r⟩
  | .pile x dx _, ⟨e, vs, n, es, m, h1, h2, r1, r2, r3, r⟩ => ⟨e, vs, n, es, m, u.get h1 (.inl nofun), u.get h2 (.inl nofun), r1, r2, r3, r.keepT u.keepT⟩

/-- objects that statements leave alone -/
def isIt (o : Obj) : Prop := ∃ n fs, o.cls = .type n ∧ o.data = .fields fs
def isSeqT (n : String) (o : Obj) : Prop := o.cls = .type n ∧ ∃ items k, o.data = .seq items k
def kept (kl : Bool) (o : Obj) : Prop := isIt o ∨ isSeqT "tuple" o ∨ (kl = true ∧ isSeqT "list" o)
theorem kept.notTab {kl : Bool} {o : Obj} : kept kl o → NotTab o
  | .inl ⟨n, _, h, _⟩ => .inl (by rw [h]; nofun)
  | .inr (.inl ⟨h, _⟩) => .inl (by rw [h]; nofun)
  | .inr (.inr ⟨_, h, _⟩) => .inl (by rw [h]; nofun)
def Kp (kl : Bool) (h h' : Heap) : Prop := ∀ b o, h.get? b = some o → kept kl o → h'.get? b = some o
theorem Kp.refl {kl : Bool} (h : Heap) : Kp kl h h := fun _ _ e _ => e
theorem Kp.trans {kl : Bool} {a b c : Heap} (x : Kp kl a b) (y : Kp kl b c) : Kp kl a c := fun q o e k => y q o (x q o e k) k
theorem Up.kp {s s' : Shared} (u : Up s s') (kl : Bool) : Kp kl s.heap s'.heap := fun _ _ e k => u.get e k.notTab
theorem Kp.ns {kl : Bool} {h h' : Heap} {a : Addr} {m : Str → Option Value} (n : h.Ns a m) (hs : Heap.SameBut a h h') : Kp kl h h' := fun b o e k => by
  obtain ⟨o', es, ep, ho, hd', _⟩ := n
  have : b ≠ a := by
    rintro rfl; rw [e] at ho; cases ho
    rcases k with ⟨_, _, _, hd⟩ | ⟨_, _, _, hd⟩ | ⟨_, _, _, _, hd⟩ <;> rw [hd] at hd' <;> cases hd'
  exact (hs.2 b this).trans e
theorem Kp.cell {kl : Bool} {h h' : Heap} {a : Addr} {v : Option Value} (n : h.IsCell a v) (hs : Heap.SameBut a h h') : Kp kl h h' := fun b o e k => by
  obtain ⟨o', ho, hd'⟩ := n
  have : b ≠ a := by
    rintro rfl; rw [e] at ho; cases ho
    rcases k with ⟨_, _, _, hd⟩ | ⟨_, _, _, hd⟩ | ⟨_, _, _, _, hd⟩ <;> rw [hd] at hd' <;> cases hd'
  exact (hs.2 b this).trans e

/-- a name of the frame holds a value -/
def Bnd (env : Env) (h : Heap) (x : Str) (v : Value) : Prop :=
  (env.kindOf x = some .local ∧ ∃ m, h.Ns env.locals m ∧ m x = some v) ∨
  ((env.kindOf x = some .cell ∨ env.kindOf x = some .free) ∧ (x == ("__classdict__" : Str)) = false ∧ ∃ c, env.cells.lookup x = some c ∧ h.IsCell c (some v))

theorem ns_up {s s' : Shared} (u : Up s s') {a : Addr} {m : Str → Option Value} (n : s.heap.Ns a m) : s'.heap.Ns a m :=
  let ⟨o, es, ep, ho, hd, r⟩ := n; ⟨o, es, ep, u.get ho (.inr (by rw [hd]; nofun)), hd, r⟩
theorem cell_up {s s' : Shared} (u : Up s s') {a : Addr} {v : Option Value} (n : s.heap.IsCell a v) : s'.heap.IsCell a v :=
  let ⟨o, ho, hd⟩ := n; ⟨o, u.get ho (.inr (by rw [hd]; nofun)), hd⟩
theorem Bnd.up {env : Env} {s s' : Shared} (u : Up s s') {x : Str} {v : Value} : Bnd env s.heap x v → Bnd env s'.heap x v
  | .inl ⟨k, m, n, e⟩ => .inl ⟨k, m, ns_up u n, e⟩
  | .inr ⟨k, kd, c, e, hc⟩ => .inr ⟨k, kd, c, e, cell_up u hc⟩

structure Cx where
  k : Nat
  w : World
  A : Around
  env : Env
  K : Frag
  B : Shared
  own : List (Str × Addr)
  kl : Bool
  vars : List (Str × D)

/-- the world's facts at a state: all about addresses up to lo -/
def TabOk (P : Addr) (ps : Array Value) : Prop :=
  ps = #[] ∨ (P = 96 ∧ ∃ c, ps = #[.int 31 0, .int 19 0, c]) ∨ (P = 103 ∧ ∃ c, ps = #[.int 34 0, .int 32 0, c])

structure Wd (K : Frag) (s : Shared) : Prop where
  st : ∀ a o, K.lookup a = some o → a ∉ tabs → s.heap.get? a = some o
  tab : ∀ P, P ∈ tabs → ∃ ps, s.heap.get? P = some (tabObj ps) ∧ TabOk P ps

/-- names of the top -/
structure GOk (K : Frag) : Prop where
  glob : ∃ es n, K.lookup mainGlobals = some ⟨.type "dict", none, .dict es n, #[]⟩ ∧ StrKeys es
  blt : ∃ es n, K.lookup builtinsNs = some ⟨.type "dict", none, .dict es n, #[]⟩ ∧ StrKeys es
  stat : ∃ es n, K.lookup cStatics = some ⟨.none, none, .dict es n, #[]⟩ ∧ StrKeys es ∧ nsFind es "sys.recursionlimit" = none ∧ nsFind es "sys.int_max_str_digits" = none

structure Cx.Ok (c : Cx) : Prop where
  handled : c.A.handled = none
  depth : c.A.depth + 10 * c.k ≤ 990
  units : c.A.units + 100 * c.k ≤ 9800
  kind : c.env.scope.kind = .function
  glob : c.env.globals = mainGlobals
  blt : c.env.builtins = builtinsNs
  gok : GOk c.K
  wb : Wd c.K c.B
  new : c.B.heap.get? c.env.locals = none
  ownp : c.own.Pairwise fun x y => x.2 ≠ y.2
  ownB : ∀ p, p ∈ c.own → c.B.heap.get? p.2 = none

def Has (w : World) (env : Env) (h : Heap) (x : Str) (d : D) : Prop := ∃ v, Bnd env h x v ∧ Rep w h v d ∧ d.notAt env.locals

structure Cx.Inv0 (c : Cx) (s : Shared) : Prop where
  wd : Wd c.K s
  up : Up c.B s
  ns : ∃ m, s.heap.Ns c.env.locals m
  vars : ∀ p ∈ c.vars, Has c.w c.env s.heap p.1 p.2
  cel : ∀ p, p ∈ c.own → ∃ v, s.heap.IsCell p.2 v

structure Cx.Inv (c : Cx) (s : Shared) : Prop extends c.Inv0 s where
  pos : 1 ≤ s.toks

theorem Wd.keeps {K : Frag} {s : Shared} (x : Wd K s) {h' : Heap} {tk : Nat} (hk : ∀ b o, s.heap.get? b = some o → h'.get? b = some o) : Wd K { s with heap := h', toks := tk } :=
  ⟨fun a o e n => hk a o (x.st a o e n), fun P hP => let ⟨ps, hp, ok⟩ := x.tab P hP; ⟨ps, hk P _ hp, ok⟩⟩
/-- what stood at the base stays -/
theorem Wd.step {K : Frag} {B s : Shared} (y : Wd K B) (x : Wd K s) {h' : Heap} {tk : Nat} (hk : ∀ b o, (∃ o', B.heap.get? b = some o') → s.heap.get? b = some o → h'.get? b = some o) : Wd K { s with heap := h', toks := tk } :=
  ⟨fun a o e n => hk a o ⟨o, y.st a o e n⟩ (x.st a o e n), fun P hP => let ⟨ps, hp, ok⟩ := x.tab P hP; let ⟨ps', hp', _⟩ := y.tab P hP; ⟨ps, hk P _ ⟨_, hp'⟩ hp, ok⟩⟩
theorem Up.step {B s : Shared} (u : Up B s) {h' : Heap} {tk : Nat} (hk : ∀ b o, (∃ o', B.heap.get? b = some o') → s.heap.get? b = some o → h'.get? b = some o) : Up B { s with heap := h', toks := tk } :=
  ⟨u.os, u.gens, fun b o e n => hk b o ⟨o, e⟩ (u.keep b o e n), fun P hP ps e => let ⟨m, e'⟩ := u.tab P hP ps e; ⟨m, hk P _ ⟨_, e⟩ e'⟩, fun b o e => let ⟨o', e'⟩ := u.there b o e; ⟨o', hk b o' ⟨o, e⟩ e'⟩⟩

theorem Has.up {w : World} {env : Env} {s s' : Shared} (u : Up s s') {x : Str} {d : D} : Has w env s.heap x d → Has w env s'.heap x d :=
  fun ⟨v, b, r, n⟩ => ⟨v, b.up u, r.up u, n⟩

/-- all that stood stays: the invariant stays -/
theorem Cx.Inv0.keeps {c : Cx} (ok : c.Ok) {s : Shared} (i : c.Inv0 s) {h' : Heap} {tk : Nat} (hk : ∀ b o, s.heap.get? b = some o → h'.get? b = some o) : c.Inv0 { s with heap := h', toks := tk } :=
  have u : Up s { s with heap := h', toks := tk } := Up.of hk
  ⟨i.wd.keeps hk, i.up.trans u, let ⟨m, n⟩ := i.ns; ⟨m, ns_up u n⟩, fun p hp => (i.vars p hp).up u, fun p hp => let ⟨v, hc⟩ := i.cel p hp; ⟨v, cell_up u hc⟩⟩
theorem Cx.Inv0.tok {c : Cx} (ok : c.Ok) {s : Shared} (i : c.Inv0 s) (tk : Nat) : c.Inv0 { s with toks := tk } := i.keeps ok (h' := s.heap) fun _ _ e => e

/-- e evaluates to d -/
def Ev (c : Cx) (e : Expr) (d : D) : Prop :=
  c.Ok → ∀ (s : Shared) (Q : Value → Shared → Prop), c.Inv s → (∀ v s', c.Inv s' → Up s s' → Rep c.w s'.heap v d → d.notAt c.env.locals → Q v s') → wpAny (model PG c.w) c.A (eval e c.env) Q NoE s

/-- e is a test: it comes out as b -/
def Ts (c : Cx) (e : Expr) (b : Bool) : Prop :=
  c.Ok → ∀ (s : Shared) (Q : Bool → Shared → Prop), c.Inv s → (∀ s', c.Inv s' → Up s s' → Q b s') → wpAny (model PG c.w) c.A (isTrue e c.env (eval e c.env)) Q NoE s

theorem Ev.mk {c : Cx} {e : Expr} {d : D}
    (H : c.Ok → ∀ (s : Shared) (Q : Value → Shared → Prop), c.Inv s → (∀ v s', c.Inv0 s' → Up s s' → Rep c.w s'.heap v d → d.notAt c.env.locals → Q v s') → wpAny (model PG c.w) c.A (eval e c.env) Q NoE s) : Ev c e d :=
  fun ok s Q inv h => wpAny_with_toks inv.pos (wpAny_mono (H ok s (fun v s' => 1 ≤ s'.toks → Q v s') inv fun v s' i u r n p => h v s' ⟨i, p⟩ u r n) (fun _ _ x => x) fun _ _ x => x.elim)
theorem Ts.mk {c : Cx} {e : Expr} {b : Bool}
    (H : c.Ok → ∀ (s : Shared) (Q : Bool → Shared → Prop), c.Inv s → (∀ s', c.Inv0 s' → Up s s' → Q b s') → wpAny (model PG c.w) c.A (isTrue e c.env (eval e c.env)) Q NoE s) : Ts c e b :=
  fun ok s Q inv h => wpAny_with_toks inv.pos (wpAny_mono (H ok s (fun v s' => 1 ≤ s'.toks → Q v s') inv fun s' i u p => h s' ⟨i, p⟩ u) (fun _ _ x => x) fun _ _ x => x.elim)

theorem Ev.cint {c : Cx} {i : Int} {k : Nat} {pos : Pos} : Ev c (.Constant (.int i) k pos) (.f (.int i)) := Ev.mk fun ok _ _ inv h =>
  wpAny_Constant_int (h _ _ (inv.tok ok _) Up.tok (.int _ _) trivial)
theorem Ev.cbool {c : Cx} {b : Bool} {k : Nat} {pos : Pos} : Ev c (.Constant (.bool b) k pos) (.f (.bool b)) := Ev.mk fun _ _ _ inv h =>
  wpAny_Constant_bool (h _ _ inv.toInv0 (Up.refl _) (.bool _) trivial)
theorem Ev.cstr {c : Cx} {x : Str} {k : Nat} {pos : Pos} {l : List Nat} (hl : x.cps.toList = l) : Ev c (.Constant (.str x) k pos) (.f (.str l)) := Ev.mk fun ok _ _ inv h =>
  wpAny_Constant_str (h _ _ (inv.tok ok _) Up.tok (by obtain ⟨⟨x⟩⟩ := x; subst hl; exact .str _ _) trivial)

/-- reading a name -/
theorem wp_name {c : Cx} {x : Str} {v : Value} {s : Shared} {Q : Value → Shared → Prop} (ok : c.Ok) (b : Bnd c.env s.heap x v) (h : Q v s) : wpAny (model PG c.w) c.A (loadName c.env x) Q NoE s := by
  rcases b with ⟨k, m, n, e⟩ | ⟨k, kd, cl, e, hc⟩
  · exact wpAny_loadName_local ok.kind k n e h
  · rcases k with k | k
    · exact wpAny_loadName_cell ok.kind k e hc h
    · exact wpAny_loadName_free ok.kind k e hc h kd
theorem lookup_mem {α : Type} : ∀ {l : List (Str × α)} {x : Str} {d : α}, l.lookup x = some d → (x, d) ∈ l
  | (y, e) :: r, x, d, h => by
    rw [List.lookup_cons] at h
    cases q : x == y with
    | true => rw [q] at h; rw [beq_iff_eq.mp q]; cases h; exact .head _
    | false => rw [q] at h; exact .tail _ (lookup_mem h)
theorem Ev.name {c : Cx} {x : Str} {pos : Pos} {d : D} (hx : c.vars.lookup x = some d) (hd : (x == ("__debug__" : Str)) = false := by decide) : Ev c (.Name x pos) d := fun ok s Q inv h => by
  obtain ⟨v, b, r, n⟩ := inv.vars _ (lookup_mem hx)
  exact wpAny_Name (wp_name ok b (h v s inv (Up.refl s) r n)) hd


def entriesOf (K : Frag) (a : Addr) : Array DictEntry := match K.lookup a with
  | some ⟨_, _, .dict es _, _⟩ => es
  | _ => #[]
def gval (K : Frag) (x : Str) : Option Value := match nsFind (entriesOf K mainGlobals) x with
  | some v => some v
  | none => nsFind (entriesOf K builtinsNs) x

theorem Wd.ns {K : Frag} {s : Shared} (x : Wd K s) {a : Addr} (ha : a ∉ tabs) {cl : Value} {es : Array DictEntry} {n : Nat} (h : K.lookup a = some ⟨cl, none, .dict es n, #[]⟩) (k : StrKeys es) :
    s.heap.Ns a (fun y => nsFind (entriesOf K a) y) :=
  ⟨_, es, n, x.st a _ h ha, rfl, k, fun y => by unfold entriesOf; rw [h]⟩
theorem Wd.noLimit {K : Frag} {s : Shared} (x : Wd K s) (g : GOk K) : s.heap.NoLimit := by
  obtain ⟨es, n, h, k, e, _⟩ := g.stat
  exact ⟨_, x.ns (by decide) h k, by simp only [entriesOf, h]; exact e⟩

end Mine
end

section
open PySem PySem.W PyProof.Rows PySem.Calls
namespace Mine

theorem Cx.Inv.keeps0 {c : Cx} (ok : c.Ok) {s : Shared} (i : c.Inv s) {h' : Heap} {tk : Nat} (hk : ∀ b o, s.heap.get? b = some o → h'.get? b = some o) : c.Inv0 { s with heap := h', toks := tk } := i.toInv0.keeps ok hk
theorem Cx.Inv.tok0 {c : Cx} (ok : c.Ok) {s : Shared} (i : c.Inv s) (tk : Nat) : c.Inv0 { s with toks := tk } := i.toInv0.tok ok tk
theorem Cx.Inv.push0 {c : Cx} (ok : c.Ok) {s : Shared} (i : c.Inv s) (o : Obj) (tk : Nat) : c.Inv0 { s with heap := s.heap.push o, toks := tk } := i.toInv0.keeps ok fun _ _ e => Heap.get?_push_of_some _ e

theorem Ev.glob {c : Cx} {x : Str} {pos : Pos} {v : Value} (hk : c.env.kindOf x = some .globalImplicit) (hv : gval c.K x = some v) (hd : (x == ("__debug__" : Str)) = false := by decide) :
    Ev c (.Name x pos) (.val v) := fun ok s Q inv h => by
  refine wpAny_Name ?_ hd
  rw [loadName_read ok.kind hk]
  obtain ⟨es, n, h1, k1⟩ := ok.gok.glob
  obtain ⟨es', n', h2, k2⟩ := ok.gok.blt
  have n1 := inv.wd.ns (by decide) h1 k1
  have n2 := inv.wd.ns (by decide) h2 k2
  have fin := h v s inv (Up.refl s) rfl trivial
  unfold gval at hv
  split at hv
  · rename_i v' e
    cases hv
    exact loadGlobal_global (by rw [ok.glob]; exact n1) e fin
  · rename_i e
    exact loadGlobal_builtin (by rw [ok.glob]; exact n1) e (by rw [ok.blt]; exact n2) hv fin
theorem Ev.globS {c : Cx} {x : Str} {pos : Pos} {y : Str} {t : Tok} {l : List Nat} (hk : c.env.kindOf x = some .globalImplicit) (hv : gval c.K x = some (.str y t)) (hl : y.cps.toList = l) (hd : (x == ("__debug__" : Str)) = false := by decide) :
    Ev c (.Name x pos) (.f (.str l)) := fun ok s Q inv h => Ev.glob hk hv hd ok s Q inv fun v s' i u r n => h v s' i u (by cases r; obtain ⟨⟨y⟩⟩ := y; subst hl; exact .str _ _) trivial

/-- a binary operation on data -/
def BinR (c : Cx) (op : Operator) (d1 d2 d3 : D) : Prop :=
  c.Ok → ∀ (s : Shared) (v1 v2 : Value) (Q : Value → Shared → Prop), c.Inv s → Rep c.w s.heap v1 d1 → Rep c.w s.heap v2 d2 →
    (∀ v s', c.Inv0 s' → Up s s' → Rep c.w s'.heap v d3 → d3.notAt c.env.locals → Q v s') → wpAny (model PG c.w) c.A (binaryOp op v1 v2) Q NoE s
theorem Ev.bin {c : Cx} {l r : Expr} {op : Operator} {pos : Pos} {d1 d2 d3 : D} (h1 : Ev c l d1) (h2 : Ev c r d2) (h3 : BinR c op d1 d2 d3) : Ev c (.BinOp l op r pos) d3 :=
  Ev.mk fun ok s Q inv h => wpAny_BinOp (h1 ok s _ inv fun v1 s1 i1 u1 r1 _ => h2 ok s1 _ i1 fun v2 s2 i2 u2 r2 _ =>
    h3 ok s2 v1 v2 Q i2 (r1.up u2) r2 fun v s' i u r n => h v s' i ((u1.trans u2).trans u) r n)

theorem BinR.addI {c : Cx} {a b : Int} : BinR c .Add (.f (.int a)) (.f (.int b)) (.f (.int (a + b))) := fun ok s _ _ Q inv r1 r2 h => by
  cases r1; cases r2; exact wpAny_add_int (h _ _ (inv.tok0 ok _) Up.tok (.int _ _) trivial)
theorem BinR.subI {c : Cx} {a b : Int} : BinR c .Sub (.f (.int a)) (.f (.int b)) (.f (.int (a - b))) := fun ok s _ _ Q inv r1 r2 h => by
  cases r1; cases r2; exact P.sub_int (h _ _ (inv.tok0 ok _) Up.tok (.int _ _) trivial)
theorem BinR.modI {c : Cx} {a b : Int} (hb : b ≠ 0) : BinR c .Mod (.f (.int a)) (.f (.int b)) (.f (.int (a.fmod b))) := fun ok s _ _ Q inv r1 r2 h => by
  cases r1; cases r2
  exact PyProof.Rows.mod_int hb (h _ _ (inv.tok0 ok _) Up.tok (.int _ _) trivial)
theorem BinR.divI {c : Cx} {a b : Int} (hb : b ≠ 0) (hs : b.natAbs < 1073741824) : BinR c .FloorDiv (.f (.int a)) (.f (.int b)) (.f (.int (a.fdiv b))) := fun ok s _ _ Q inv r1 r2 h => by
  cases r1; cases r2
  exact PyProof.Rows.floordiv_int hb (h _ _ (inv.tok0 ok _) Up.tok (.int _ _) trivial) (.inl (PyProof.noPylong_small hs))
theorem BinR.powI {c : Cx} {a n : Int} (hn : 0 ≤ n) (hsz : (Builtin.Int.intBits a : Int) * n ≤ 2 ^ 27) : BinR c .Pow (.f (.int a)) (.f (.int n)) (.f (.int (a ^ n.toNat))) := fun ok s _ _ Q inv r1 r2 h => by
  cases r1; cases r2
  exact PyProof.Rows.pow_int hn hsz (h _ _ (inv.tok0 ok _) Up.tok (.int _ _) trivial)
theorem str_append (a b : List Nat) : (⟨a.toArray⟩ : Str) ++ (⟨b.toArray⟩ : Str) = ⟨(a ++ b).toArray⟩ := by
  show Str.append _ _ = _
  simp [Str.append]
theorem BinR.addS {c : Cx} {a b : List Nat} (hs : a.length + b.length ≤ 16777216) : BinR c .Add (.f (.str a)) (.f (.str b)) (.f (.str (a ++ b))) := fun ok s _ _ Q inv r1 r2 h => by
  cases r1; cases r2
  refine PyProof.Rows.add_str (fun t' tk => ?_) (by rw [sizeLine_eq]; simpa [Str.length] using hs)
  rw [str_append]
  exact h _ _ (inv.tok0 ok _) Up.tok (.str _ _) trivial
def mulS (a : List Nat) (n : Int) : List Nat := (List.replicate n.toNat a).flatten
theorem foldl_arr (l : List Nat) : ∀ (k : Nat) (acc : Array Nat), (List.replicate k l.toArray).foldl (· ++ ·) acc = acc ++ (List.replicate k l).flatten.toArray
  | 0, acc => by simp
  | k + 1, acc => by
    rw [List.replicate_succ, List.foldl_cons, foldl_arr l k, List.replicate_succ, List.flatten_cons, Array.append_assoc]
    congr 1
    simp
theorem txt_mul (a : List Nat) (n : Int) : Txt.mul ⟨a.toArray⟩ n = ⟨(mulS a n).toArray⟩ := by
  unfold Txt.mul mulS
  by_cases h1 : n < 1
  · rw [if_pos h1]
    have : n.toNat = 0 := by omega
    rw [this]; rfl
  · rw [if_neg h1]
    split
    · rename_i h
      simp only [Bool.or_eq_true, beq_iff_eq] at h
      rcases h with h | h
      · subst h; simp
      · have : a = [] := by simpa [Str.length] using h
        subst this; simp
    · rw [foldl_arr]; simp
theorem BinR.mulS {c : Cx} {a : List Nat} {n : Int} (h1 : n < 1000) (h2 : -1000 < n) (h3 : a.length ≤ 1000) : BinR c .Mult (.f (.str a)) (.f (.int n)) (.f (.str (mulS a n))) := fun ok s _ _ Q inv r1 r2 h => by
  cases r1; cases r2
  refine PySem.SB.mul ⟨by simp; omega, fun h4 _ => ?_, fun h4 _ => ?_⟩ fun t' k => ?_
  · have : (1000 : Int) ≤ (2 ^ 63 - 1) / n := (Int.le_ediv_iff_mul_le (by omega)).mpr (by omega)
    have h5 : ((⟨a.toArray⟩ : Str).length : Int) ≤ 1000 := by simp [Str.length]; omega
    omega
  · have h5 : (⟨a.toArray⟩ : Str).length ≤ 1000 := by simpa [Str.length] using h3
    have : (⟨a.toArray⟩ : Str).length * n.toNat ≤ 1000 * 1000 := Nat.mul_le_mul h5 (by omega)
    simp only [Builtin.Str.tooLong, sizeLine_eq]
    exact decide_eq_false (by omega)
  · rw [txt_mul]
    exact h _ _ (inv.tok0 ok _) Up.tok (.str _ _) trivial

theorem list_is {w : World} {h : Heap} {v : Value} {xs : List F} (r : Rep w h v (.list xs)) : ∃ a vs n, v = .ref a ∧ h.get? a = some (listObj vs n) ∧ h.IsList a vs.toArray ∧ RepFs h vs xs :=
  let ⟨a, vs, n, e, ho, r⟩ := r; ⟨a, vs, n, e, ho, ⟨_, ho, rfl, n, rfl⟩, r⟩
theorem Rep.newList {w : World} {s : Shared} {vs : List Value} {xs : List F} (r : RepFs s.heap vs xs) : Rep w (s.heap.push { cls := .type "list", data := .seq vs.toArray }) (.ref s.heap.objs.size) (.list xs) :=
  ⟨_, vs, 0, rfl, Heap.get?_push_size _ rfl, r.keepT (.of fun _ _ e => Heap.get?_push_of_some _ e)⟩

theorem BinR.addL {c : Cx} {a b : List F} (hs : a.length + b.length ≤ 16777216) : BinR c .Add (.list a) (.list b) (.list (a ++ b)) := fun ok s _ _ Q inv r1 r2 h => by
  obtain ⟨l1, vs, n1, rfl, ho1, _, q1⟩ := list_is r1
  obtain ⟨l2, ws, n2, rfl, ho2, _, q2⟩ := list_is r2
  have hsz : vs.toArray.size + ws.toArray.size ≤ sizeLine := by rw [sizeLine_eq]; simp [q1.length, q2.length]; omega
  refine concat_meets ⟨_, ho1, rfl⟩ ⟨_, ho2, rfl⟩ noFill_list_add seq_list_add PySem.F.slot_list_add PySem.F.entry_list_add (PySem.F.args_list_add_2 _ _) (list_addW l1 l2 vs.toArray ws.toArray n1 n2 none none #[] #[] hsz) ⟨ho1, ho2, ?_⟩
  have e : vs.toArray ++ ws.toArray = (vs ++ ws).toArray := by simp
  rw [e]
  exact h _ _ (inv.push0 ok _ _) Up.push (Rep.newList (q1.append q2)) trivial
def mulL (a : List F) (n : Int) : List F := (List.replicate n.toNat a).flatten
theorem RepFs.rep {h : Heap} {vs : List Value} {xs : List F} (r : RepFs h vs xs) : ∀ n : Nat, RepFs h (List.replicate n vs).flatten (List.replicate n xs).flatten
  | 0 => .nil
  | n + 1 => by simpa [List.replicate_succ] using r.append (r.rep n)
theorem BinR.mulL {c : Cx} {a : List F} {n : Int} (h1 : n < 1000) (h2 : -1000 < n) (h3 : a.length ≤ 1000) : BinR c .Mult (.list a) (.f (.int n)) (.list (mulL a n)) := fun ok s _ _ Q inv r1 r2 h => by
  obtain ⟨l, vs, k, rfl, ho1, _, q1⟩ := list_is r1
  cases r2
  rename_i u
  have hsz : vs.toArray.size * n.toNat ≤ 2 ^ 24 := by
    have : vs.toArray.size ≤ 1000 := by simpa [q1.length] using h3
    have : vs.toArray.size * n.toNat ≤ 1000 * 1000 := Nat.mul_le_mul this (by omega)
    omega
  refine wpAny_binaryOp_repeat_ref (T := "list") (U := "int") (by decide) ⟨_, ho1, rfl⟩ (fun s' => typeIs_int s' n u) noFill_list_mul PySem.F.fills_int_mul PySem.F.slot_int_rmul repeat_list PySem.F.slot_int_index.lookup
    (call_meets PySem.F.slot_int_rmul (typeIs_int s n u) PySem.F.entry_int_rmul (PySem.F.args_int_rmul_2 _ _) (int___rmul___int_list n u l vs.toArray k)
      ⟨ho1, rfl, ⟨_, ho1, rfl⟩, call_meets PySem.F.slot_list_mul ⟨_, ho1, rfl⟩ PySem.F.entry_list_mul (PySem.F.args_list_mul_2 _ _)
        (AutoListH.list___mul___list_int_3 l vs.toArray k n u (by simp [Builtin.List.listFitsIndex]; omega) (by omega) (by simp [Builtin.List.listTooLong, sizeLine]; simpa using hsz))
        ⟨ho1, ?_⟩⟩)
  rw [listMul_foldl_if]
  exact h _ _ (inv.push0 ok _ _) Up.push (Rep.newList (by show RepFs _ _ (List.replicate n.toNat a).flatten; simpa using q1.rep n.toNat)) trivial

/-- a comparison of data -/
def CmpR (c : Cx) (op : CmpOp) (d1 d2 : D) (b : Bool) : Prop :=
  c.Ok → ∀ (s : Shared) (v1 v2 : Value) (Q : Value → Shared → Prop), c.Inv s → Rep c.w s.heap v1 d1 → Rep c.w s.heap v2 d2 →
    (∀ s', c.Inv0 s' → Up s s' → Q (.bool b) s') → wpAny (model PG c.w) c.A (compareOp op v1 v2) Q NoE s
theorem Ev.cmp {c : Cx} {l r : Expr} {op : CmpOp} {pos : Pos} {d1 d2 : D} {b : Bool} (h1 : Ev c l d1) (h2 : Ev c r d2) (h3 : CmpR c op d1 d2 b) (hm : behindInMarks op r = false := by with_unfolding_all rfl) :
    Ev c (.Compare l [op] [r] pos) (.f (.bool b)) :=
  Ev.mk fun ok s Q inv h => wpAny_Compare1 (h1 ok s _ inv fun v1 s1 i1 u1 r1 _ => h2 ok s1 _ i1 fun v2 s2 i2 u2 r2 _ =>
    h3 ok s2 v1 v2 Q i2 (r1.up u2) r2 fun s' i u => h _ s' i ((u1.trans u2).trans u) (.bool _) trivial) hm
theorem Ts.cmp {c : Cx} {l r : Expr} {op : CmpOp} {pos : Pos} {d1 d2 : D} {b : Bool} (h1 : Ev c l d1) (h2 : Ev c r d2) (h3 : CmpR c op d1 d2 b) (hm : behindInMarks op r = false := by with_unfolding_all rfl) :
    Ts c (.Compare l [op] [r] pos) b :=
  Ts.mk fun ok s Q inv h => wpAny_isTrue_Compare1 (h1 ok s _ inv fun v1 s1 i1 u1 r1 _ => h2 ok s1 _ i1 fun v2 s2 i2 u2 r2 _ =>
    h3 ok s2 v1 v2 _ i2 (r1.up u2) r2 fun s' i u => wpAny_truthy_bool (h s' i ((u1.trans u2).trans u))) hm

theorem CmpR.eqI {c : Cx} {a b : Int} : CmpR c .Eq (.f (.int a)) (.f (.int b)) (a == b) := fun ok s _ _ Q inv r1 r2 h => by
  cases r1; cases r2; exact P.eq_int (h s inv.toInv0 (Up.refl s))
theorem CmpR.neI {c : Cx} {a b : Int} : CmpR c .NotEq (.f (.int a)) (.f (.int b)) (a != b) := fun ok s _ _ Q inv r1 r2 h => by
  cases r1; cases r2; exact P.ne_int (h s inv.toInv0 (Up.refl s))
theorem CmpR.leI {c : Cx} {a b : Int} : CmpR c .LtE (.f (.int a)) (.f (.int b)) (decide (a ≤ b)) := fun ok s _ _ Q inv r1 r2 h => by
  cases r1; cases r2; exact P.le_int (h s inv.toInv0 (Up.refl s))
theorem CmpR.eqS {c : Cx} {a b : List Nat} : CmpR c .Eq (.f (.str a)) (.f (.str b)) (a == b) := fun ok s _ _ Q inv r1 r2 h => by
  cases r1; cases r2; exact P.eq_str (h s inv.toInv0 (Up.refl s))
theorem CmpR.neS {c : Cx} {a b : List Nat} : CmpR c .NotEq (.f (.str a)) (.f (.str b)) (a != b) := fun ok s _ _ Q inv r1 r2 h => by
  cases r1; cases r2; exact P.ne_str (h s inv.toInv0 (Up.refl s))
theorem CmpR.inS {c : Cx} {a b : List Nat} : CmpR c .In (.f (.str a)) (.f (.str b)) (!(Builtin.Str.occurrences ⟨b.toArray⟩ ⟨a.toArray⟩ 0 (⟨b.toArray⟩ : Str).length 1).isEmpty) := fun ok s _ _ Q inv r1 r2 h => by
  cases r1; cases r2; exact P.in_str (h s inv.toInv0 (Up.refl s))

/-- truth of data -/
def TruR (c : Cx) (d : D) (b : Bool) : Prop :=
  c.Ok → ∀ (s : Shared) (v : Value) (Q : Bool → Shared → Prop), c.Inv s → Rep c.w s.heap v d → (∀ s', c.Inv0 s' → Up s s' → Q b s') → wpAny (model PG c.w) c.A (truthy v) Q NoE s
theorem TruR.bool {c : Cx} {b : Bool} : TruR c (.f (.bool b)) b := fun ok s _ Q inv r h => by cases r; exact wpAny_truthy_bool (h s inv.toInv0 (Up.refl s))
theorem TruR.int {c : Cx} {a : Int} : TruR c (.f (.int a)) (a != 0) := fun ok s _ Q inv r h => by cases r; exact P.truthy_int (h s inv.toInv0 (Up.refl s))
theorem Ts.val {c : Cx} {e : Expr} {d : D} {b : Bool} (h1 : Ev c e d) (h2 : TruR c d b) (he : ∀ env whole, isTrue e env whole = (do let v ← whole; standAt e.pos; holding [v] (truthy v)) := by intro _ _; rfl) : Ts c e b :=
  Ts.mk fun ok s Q inv h => wpAny_isTrue_value (h1 ok s _ inv fun v s1 i1 u1 r1 _ => h2 ok s1 v Q i1 r1 fun s' i u => h s' i (u1.trans u)) (he _ _)
theorem Ts.not {c : Cx} {x : Expr} {pos : Pos} {b : Bool} (h1 : Ts c x b) : Ts c (.UnaryOp .Not x pos) (!b) :=
  Ts.mk fun ok s Q inv h => wpAny_isTrue_Not (h1 ok s _ inv fun s' i u => h s' i.toInv0 u)

/-- all of tests -/
def All (c : Cx) (op : BoolOp) (es : List Expr) (b : Bool) : Prop :=
  c.Ok → ∀ (s : Shared) (Q : Bool → Shared → Prop), c.Inv s → (∀ s', c.Inv s' → Up s s' → Q b s') → wpAny (model PG c.w) c.A (allTrue op es c.env) Q NoE s
theorem All.nilA {c : Cx} : All c .And [] true := fun ok s Q inv h => wpAny_allTrue_And_nil (h s inv (Up.refl s))
theorem All.nilO {c : Cx} : All c .Or [] false := fun ok s Q inv h => wpAny_allTrue_Or_nil (h s inv (Up.refl s))
theorem All.consA {c : Cx} {x : Expr} {rest : List Expr} {b b' : Bool} (h1 : Ts c x b) (h2 : b = true → All c .And rest b') : All c .And (x :: rest) (b && b') := fun ok s Q inv h =>
  wpAny_allTrue_And_cons (h1 ok s _ inv fun s1 i1 u1 => by
    cases b with
    | true => exact h2 rfl ok s1 Q i1 fun s' i u => h s' i (u1.trans u)
    | false => exact h s1 i1 u1)
theorem All.consO {c : Cx} {x : Expr} {rest : List Expr} {b b' : Bool} (h1 : Ts c x b) (h2 : b = false → All c .Or rest b') : All c .Or (x :: rest) (b || b') := fun ok s Q inv h =>
  wpAny_allTrue_Or_cons (h1 ok s _ inv fun s1 i1 u1 => by
    cases b with
    | true => exact h s1 i1 u1
    | false => exact h2 rfl ok s1 Q i1 fun s' i u => h s' i (u1.trans u))
theorem Ts.bool {c : Cx} {op : BoolOp} {es : List Expr} {pos : Pos} {b : Bool} (h1 : All c op es b) : Ts c (.BoolOp op es pos) b :=
  fun ok s Q inv h => wpAny_isTrue_BoolOp (h1 ok s Q inv h)

theorem Ev.ite {c : Cx} {t a b : Expr} {pos : Pos} {q : Bool} {d : D} (h1 : Ts c t q) (h2 : q = true → Ev c a d) (h3 : q = false → Ev c b d) : Ev c (.IfExp t a b pos) d := fun ok s Q inv h =>
  wpAny_IfExp (h1 ok s _ inv fun s1 i1 u1 => by
    cases q with
    | true => exact h2 rfl ok s1 Q i1 fun v s' i u => h v s' i (u1.trans u)
    | false => exact h3 rfl ok s1 Q i1 fun v s' i u => h v s' i (u1.trans u))
theorem Ts.ite {c : Cx} {t a b : Expr} {pos : Pos} {q r : Bool} (h1 : Ts c t q) (h2 : q = true → Ts c a r) (h3 : q = false → Ts c b r) : Ts c (.IfExp t a b pos) r := fun ok s Q inv h => by
  rw [arm_isTrue_IfExp]
  refine wpAny_bind (h1 ok s _ inv fun s1 i1 u1 => ?_)
  cases q with
  | true => exact h2 rfl ok s1 Q i1 fun s' i u => h s' i (u1.trans u)
  | false => exact h3 rfl ok s1 Q i1 fun s' i u => h s' i (u1.trans u)
theorem Ev.neg {c : Cx} {x : Expr} {pos : Pos} {a : Int} (h1 : Ev c x (.f (.int a))) : Ev c (.UnaryOp .USub x pos) (.f (.int (-a))) :=
  Ev.mk fun ok s Q inv h => wpAny_UnaryOp (h1 ok s _ inv fun v s1 i1 u1 r1 _ => by
    cases r1; exact P.neg_int (h _ _ (i1.tok0 ok _) (u1.trans Up.tok) (.int _ _) trivial))

/-- displays -/
def Evs (c : Cx) (pos : Pos) (es : List Expr) (xs : List F) : Prop :=
  c.Ok → ∀ (s : Shared) (Q : List Value → Shared → Prop), c.Inv s → (∀ vs s', c.Inv s' → Up s s' → RepFs s'.heap vs xs → Q vs s') → wpAny (model PG c.w) c.A (spliced (backTo pos (starEach es c.env))) Q NoE s
theorem Evs.nil {c : Cx} {pos : Pos} : Evs c pos [] [] := fun ok s Q inv h => wpAny_items_nil (h [] s inv (Up.refl s) .nil)
theorem Evs.cons {c : Cx} {pos : Pos} {e : Expr} {es : List Expr} {x : F} {xs : List F} (h1 : Ev c e (.f x)) (h2 : Evs c pos es xs) (he : ∀ env, starEach (e :: es) env = (false, eval e env) :: starEach es env := by intro _; rfl) : Evs c pos (e :: es) (x :: xs) := fun ok s Q inv h =>
  wpAny_items_cons (h1 ok s _ inv fun v s1 i1 u1 r1 _ => h2 ok s1 _ i1 fun vs s2 i2 u2 r2 => h _ s2 i2 (u1.trans u2) (.cons (Rep.up (d := .f x) (w := c.w) u2 r1) r2)) (he _)
theorem Ev.list {c : Cx} {es : List Expr} {pos : Pos} {xs : List F} (h1 : Evs c pos es xs) (hs : xs.length ≤ 1000) : Ev c (.List es pos) (.list xs) :=
  Ev.mk fun ok s Q inv h => wpAny_List (h1 ok s _ inv fun vs s1 i1 u1 r1 => ⟨by rw [r1.length, sizeLine_eq]; omega, h _ _ (i1.push0 ok _ _) (u1.trans Up.push) (Rep.newList r1) trivial⟩)
theorem Ev.tuple {c : Cx} {es : List Expr} {k : Nat} {pos : Pos} {xs : List F} (h1 : Evs c pos es xs) (hs : xs.length ≤ 1000) : Ev c (.Tuple es k pos) (.f (.tup xs)) :=
  Ev.mk fun ok s Q inv h => wpAny_Tuple (h1 ok s _ inv fun vs s1 i1 u1 r1 => ⟨by rw [r1.length, sizeLine_eq]; omega, h _ _ (i1.push0 ok _ _) (u1.trans Up.push)
    (.tup ⟨_, Heap.get?_push_size _ rfl, rfl, 0, rfl⟩ (r1.keepT (.of fun _ _ e => Heap.get?_push_of_some _ e))) trivial⟩)

end Mine
end

section
open PySem PySem.W PyProof.Rows PySem.Calls
namespace Mine

/-- an item of data at an int -/
def SubR (c : Cx) (d : D) (i : Int) (x : F) : Prop :=
  c.Ok → ∀ (s : Shared) (v : Value) (t : Tok) (Q : Value → Shared → Prop), c.Inv s → Rep c.w s.heap v d → (∀ v s', c.Inv0 s' → Up s s' → RepF s'.heap v x → Q v s') → SubscriptOn (model PG c.w) c.A v (.int i t) Q NoE s

theorem wpAny_Subscript_any {prog : Program} {w : World} {A : Around} {E : Value → Shared → Prop} {s : Shared} {env : Env} {value slice : Expr} {pos : Pos} {Q : Value → Shared → Prop}
    (hs : ∀ o i, subscripted slice false o i = operate [o, i] (getItem o i))
    (h : wpAny (model prog w) A (eval value env) (fun o s₁ => wpAny (model prog w) A (eval slice env) (fun i s₂ => SubscriptOn (model prog w) A o i Q E s₂) E s₁) E s) :
    wpAny (model prog w) A (eval (.Subscript value slice pos) env) Q E s := by
  rw [eval_Subscript]
  refine wpAny_bind (wpAny_mono h (fun o s₁ h₁ => wpAny_bind (wpAny_holding (wpAny_mono h₁ (fun i s₂ h₂ => wpAny_bind (wpAny_standAt ?_)) fun _ _ x => x))) fun _ _ x => x)
  obtain ⟨T, id, hl, hT, hg⟩ := h₂
  refine wpAny_bind ?_
  rw [getitemInPython_of_ne hT.not_modules]
  refine wpAny_bind (wpAny_specialOf hT hl ?_)
  have fin : wpAny (model prog w) A (operate [o, i] (getItem o i)) (fun r s₃ => wpAny (model prog w) A (letTemporaryGo value o r >>= fun _ => pure r) Q E s₃) E s₂ :=
    wpAny_operating (wpAny_mono hg (fun r s₃ h₃ => wpAny_bind (wpAny_letTemporaryGo (wpAny_pure h₃))) fun _ _ x => x)
  refine wpAny_pure ?_
  refine wpAny_bind ?_
  rw [hs]
  exact fin
theorem Ev.sub {c : Cx} {e i : Expr} {pos : Pos} {d : D} {k : Int} {x : F} (h1 : Ev c e d) (h2 : Ev c i (.f (.int k))) (h3 : SubR c d k x)
    (hs : ∀ o v, subscripted i false o v = operate [o, v] (getItem o v) := by intro _ _; rfl) : Ev c (.Subscript e i pos) (.f x) :=
  Ev.mk fun ok s Q inv h => wpAny_Subscript_any hs (h1 ok s _ inv fun v1 s1 i1 u1 r1 _ => h2 ok s1 _ i1 fun v2 s2 i2 u2 r2 _ => by
    cases r2
    exact h3 ok s2 v1 _ Q i2 (r1.up u2) fun v s' i u r => h v s' i ((u1.trans u2).trans u) r trivial)
theorem SubR.list {c : Cx} {xs : List F} {k : Int} {x : F} (h0 : 0 ≤ k) (h1 : k < 1000000) (hx : xs[k.toNat]? = some x) : SubR c (.list xs) k x := fun ok s v t Q inv r h => by
  obtain ⟨l, vs, n, rfl, ho, hl, q⟩ := list_is r
  obtain ⟨y, hy, ry⟩ := q.get hx
  exact ⟨"list", _, list_getitem_lookup, hl.typeIs, wpAny_getItem_list hl h0 (by omega) (by simpa using hy) (h y s inv.toInv0 (Up.refl s) ry)⟩
theorem SubR.str {c : Cx} {l : List Nat} {k : Int} {ch : Nat} (h0 : 0 ≤ k) (h1 : k < 1000000) (hx : l[k.toNat]? = some ch) : SubR c (.f (.str l)) k (.str [ch]) := fun ok s v t Q inv r h => by
  cases r
  refine ⟨"str", _, PySem.F.slot_str_getitem.lookup, typeIs_str _ _ _, P.getItem_str (c := ch) (by simp; omega) ?_ (h _ _ (inv.tok0 ok _) Up.tok (.str [ch] _))⟩
  have hlt : k.toNat < l.length := (List.getElem?_eq_some_iff.mp hx).1
  have e : seqIndex? k (⟨l.toArray⟩ : Str).length = some k.toNat := by
    have hk : ¬ k < 0 := by omega
    have hb : (decide (0 ≤ k) && decide (k < (l.length : Int))) = true := by simp; omega
    simp only [seqIndex?, Str.length, List.size_toArray, hk, if_false, hb, if_true]
  rw [e]
  simpa using hx

/-- slices -/
def Part (c : Cx) (e : Option Expr) (k : Option Int) : Prop :=
  c.Ok → ∀ (s : Shared) (Q : Value → Shared → Prop), c.Inv s → (∀ (p : Option (Int × Tok)) s', c.Inv s' → Up s s' → p.map (·.1) = k → Q (partValue p) s') → wpAny (model PG c.w) c.A (evalPart e c.env) Q NoE s
theorem Part.none {c : Cx} : Part c none none := fun ok s Q inv h => wpAny_evalPart_none (h Option.none s inv (Up.refl s) rfl)
theorem Part.some {c : Cx} {e : Expr} {k : Int} (h1 : Ev c e (.f (.int k))) : Part c (some e) (some k) := fun ok s Q inv h =>
  wpAny_evalPart_some (h1 ok s _ inv fun v s1 i1 u1 r1 _ => by cases r1; exact h (Option.some (k, _)) s1 i1 u1 rfl)
theorem isPart {p : Option (Int × Tok)} {k : Option Int} (h : p.map (·.1) = k) : IsPart (partValue p) k := by
  subst h
  cases p with
  | none => exact .none
  | some q => exact .int _ _

def cut (k : Option Int) (n : Nat) (dflt : Nat) : Nat := match k with
  | none => dflt
  | some i => if i < 0 then (i + n).toNat else min i.toNat n
theorem clip_cut (k : Option Int) (n dflt : Nat) : (k.elim dflt (clipAt n)) = cut k n dflt := by
  cases k with
  | none => rfl
  | some i =>
    show clipAt n i = if i < 0 then (i + n).toNat else min i.toNat n
    have := clipAt_cast n i
    by_cases h : i < 0
    · rw [if_pos h] at this ⊢; omega
    · rw [if_neg h] at this ⊢; omega
def sliceL {α : Type} (xs : List α) (lo hi : Option Int) : List α := (xs.drop (cut lo xs.length 0)).take (cut hi xs.length xs.length - cut lo xs.length 0)
theorem slicePick_is (vs : List Value) (lo hi : Option Int) : slicePick vs.toArray lo hi none = (sliceL vs lo hi).toArray := by
  rw [slicePick_plain]
  simp only [clip_cut, sliceL, List.size_toArray]
  
theorem RepFs.slice {h : Heap} {vs : List Value} {xs : List F} (r : RepFs h vs xs) (lo hi : Option Int) : RepFs h (sliceL vs lo hi) (sliceL xs lo hi) := by
  unfold sliceL
  rw [r.length]
  exact (r.drop _).take _

theorem Ev.cutL {c : Cx} {e : Expr} {lo hi : Option Expr} {p pos : Pos} {xs : List F} {a b : Option Int} (h1 : Ev c e (.list xs)) (h2 : Part c lo a) (h3 : Part c hi b) (hs : xs.length ≤ 1000)
    (ht : ∀ o r, letTemporaryGo e o r = pure () := by intro _ _; rfl) : Ev c (.Subscript e (.Slice lo hi none p) pos) (.list (sliceL xs a b)) :=
  Ev.mk fun ok s Q inv h => wpAny_Subscript_list_slice (h1 ok s _ inv fun v1 s1 i1 u1 r1 _ => h2 ok s1 _ i1 fun v2 s2 i2 u2 e2 => h3 ok s2 _ i2 fun v3 s3 i3 u3 e3 => by
    obtain ⟨l, vs, n, rfl, ho, hl, q⟩ := list_is ((r1.up u2).up u3)
    refine ⟨l, vs.toArray, a, b, rfl, hl, by rw [sizeLine_eq]; simp [q.length]; omega, isPart e2, isPart e3, ?_⟩
    rw [slicePick_is]
    have i4 := i3.push0 ok { cls := .type "slice", data := .fields #[partValue v2, partValue v3, .none] } s3.toks
    have i5 := i4.keeps ok (h' := (s3.heap.push { cls := .type "slice", data := .fields #[partValue v2, partValue v3, .none] }).push { cls := .type "list", data := .seq (Mine.sliceL vs a b).toArray }) (tk := s3.toks) (fun _ _ e => Heap.get?_push_of_some _ e)
    refine h _ _ i5 (((u1.trans u2).trans u3).trans (Up.of fun _ _ e => Heap.get?_push_of_some _ (Heap.get?_push_of_some _ e))) ?_ trivial
    have := Rep.newList (w := c.w) (s := { s3 with heap := s3.heap.push { cls := .type "slice", data := .fields #[partValue v2, partValue v3, .none] } }) ((q.slice a b).keepT (.of fun _ _ e => Heap.get?_push_of_some _ e))
    rw [Heap.size_push] at this
    exact this) ht

theorem slice_key (a b : Option Int) (n : Nat) : Builtin.Str.strSliceIndices a b 1 n = sliceRange (cut a n 0 : Nat) (cut b n n : Nat) 1 := by
  have h1 : ∀ (v : Option Int) (d : Nat), (match v with | none => (d : Int) | some i => max 0 (min (if i < 0 then i + (n : Int) else i) n)) = ((cut v n d : Nat) : Int) := by
    intro v d
    cases v with
    | none => rfl
    | some i =>
      show max 0 (min (if i < 0 then i + (n : Int) else i) n) = (((if i < 0 then (i + n).toNat else min i.toNat n) : Nat) : Int)
      by_cases h : i < 0
      · rw [if_pos h, if_pos h]; omega
      · rw [if_neg h, if_neg h]; omega
  have h2 := h1 a 0
  have h3 := h1 b n
  unfold Builtin.Str.strSliceIndices
  simp only [show (1 : Int) > 0 from by decide, if_true]
  have key : ∀ {x y x' y' : Int}, x = x' → y = y' → sliceRange x y 1 = sliceRange x' y' 1 := by intro x y x' y' e1 e2; rw [e1, e2]
  exact key h2 h3
theorem cut_le (v : Option Int) (n d : Nat) (hd : d ≤ n) : cut v n d ≤ n := by
  cases v with
  | none => exact hd
  | some i =>
    show (if i < 0 then (i + n).toNat else min i.toNat n) ≤ n
    split <;> omega
theorem slicePicked_is (l : List Nat) (lo hi : Option (Int × Tok)) : ((slicePicked ⟨l.toArray⟩ lo hi none).filterMap ((⟨l.toArray⟩ : Str).cps[·]?)).toArray = (sliceL l (lo.map (·.1)) (hi.map (·.1))).toArray := by
  unfold slicePicked
  rw [show ((none : Option (Int × Tok)).map (·.1)).getD 1 = (1 : Int) from rfl, slice_key]
  have hl : (⟨l.toArray⟩ : Str).length = l.length := by simp [Str.length]
  rw [hl, sliceRange_one, pick_run]
  rfl


theorem made_post {x : List Nat} {t : Tok} {lo hi : Option (Int × Tok)} {s : Shared} {Q : Value → Shared → Prop} (hs : x.length ≤ 1000000)
    (h : ∀ t' tk, Q (.str ⟨(sliceL x (lo.map (·.1)) (hi.map (·.1))).toArray⟩ t') { s with toks := tk }) : (sliceMade ⟨x.toArray⟩ t lo hi none).post Q s := by
  have e := slicePicked_is x lo hi
  unfold sliceMade
  have hb : (if (((none : Option (Int × Tok)).map (·.1)).getD 1 == 1 && (slicePicked ⟨x.toArray⟩ lo hi none).length == (⟨x.toArray⟩ : Str).length) = true then Made.val (.str ⟨x.toArray⟩ t) else
      .str ⟨((slicePicked ⟨x.toArray⟩ lo hi none).filterMap ((⟨x.toArray⟩ : Str).cps[·]?)).toArray⟩).post Q s := by
    rw [e]
    split
    · rename_i hc
      have hl : (slicePicked ⟨x.toArray⟩ lo hi none).length = x.length := by
        simp only [Bool.and_eq_true, beq_iff_eq] at hc
        simpa [Str.length] using hc.2
      -- the whole text
      have key : sliceL x (lo.map (·.1)) (hi.map (·.1)) = x := by
        have h1 : (slicePicked ⟨x.toArray⟩ lo hi none).length = cut (hi.map (·.1)) x.length x.length - cut (lo.map (·.1)) x.length 0 := by
          unfold slicePicked
          rw [show ((none : Option (Int × Tok)).map (·.1)).getD 1 = (1 : Int) from rfl, slice_key, sliceRange_one]
          simp [Str.length]
        rw [hl] at h1
        have hx : cut (hi.map (·.1)) x.length x.length ≤ x.length ∨ x.length < cut (hi.map (·.1)) x.length x.length := by omega
        unfold sliceL
        have c0 : cut (lo.map (·.1)) x.length 0 = 0 ∨ 0 < cut (lo.map (·.1)) x.length 0 := by omega
        rcases c0 with c0 | c0
        · rw [c0] at h1 ⊢
          rw [← h1]; simp
        · exfalso
          have := cut_le (hi.map (·.1)) x.length x.length (Nat.le_refl _)
          have := cut_le (lo.map (·.1)) x.length 0 (Nat.zero_le _)
          omega
      rw [key] at h
      exact h t s.toks
    · refine ⟨?_, h _ _⟩
      show (sliceL x (lo.map (·.1)) (hi.map (·.1))).toArray.size ≤ sizeLine
      rw [sizeLine_eq]
      have : (sliceL x (lo.map (·.1)) (hi.map (·.1))).length ≤ x.length := by
        unfold sliceL
        rw [List.length_take, List.length_drop]; omega
      simp; omega
  exact hb
theorem Ev.cutS {c : Cx} {e : Expr} {lo hi : Option Expr} {p pos : Pos} {x : List Nat} {a b : Option Int} (h1 : Ev c e (.f (.str x))) (h2 : Part c lo a) (h3 : Part c hi b) (hs : x.length ≤ 1000000)
    (ht : ∀ o r, letTemporaryGo e o r = pure () := by intro _ _; rfl) : Ev c (.Subscript e (.Slice lo hi none p) pos) (.f (.str (sliceL x a b))) :=
  Ev.mk fun ok s Q inv h => wpAny_Subscript_str_slice (h1 ok s _ inv fun v1 s1 i1 u1 r1 _ => h2 ok s1 _ i1 fun v2 s2 i2 u2 e2 => h3 ok s2 _ i2 fun v3 s3 i3 u3 e3 => by
    cases r1
    refine ⟨_, _, v2, v3, rfl, rfl, rfl, made_post hs fun t' tk => ?_⟩
    rw [e2, e3]
    exact h _ _ (i3.push0 ok _ _) (((u1.trans u2).trans u3).trans Up.push) (.str _ _) trivial) ht


/-- calls of one argument, of two -/
def CallR1 (c : Cx) (f : Value) (d d' : D) : Prop :=
  c.Ok → ∀ (s : Shared) (v : Value) (Q : Value → Shared → Prop), c.Inv s → Rep c.w s.heap v d → (∀ v' s', c.Inv0 s' → Up s s' → Rep c.w s'.heap v' d' → d'.notAt c.env.locals → Q v' s') → wpAny (model PG c.w) c.A (call f [v]) Q NoE s
def CallR2 (c : Cx) (f : Value) (d e d' : D) : Prop :=
  c.Ok → ∀ (s : Shared) (v u : Value) (Q : Value → Shared → Prop), c.Inv s → Rep c.w s.heap v d → Rep c.w s.heap u e → (∀ v' s', c.Inv0 s' → Up s s' → Rep c.w s'.heap v' d' → d'.notAt c.env.locals → Q v' s') → wpAny (model PG c.w) c.A (call f [v, u]) Q NoE s
def CallR3 (c : Cx) (f : Value) (d e g d' : D) : Prop :=
  c.Ok → ∀ (s : Shared) (v u z : Value) (Q : Value → Shared → Prop), c.Inv s → Rep c.w s.heap v d → Rep c.w s.heap u e → Rep c.w s.heap z g → (∀ v' s', c.Inv0 s' → Up s s' → Rep c.w s'.heap v' d' → d'.notAt c.env.locals → Q v' s') → wpAny (model PG c.w) c.A (call f [v, u, z]) Q NoE s
/-- what is called is kept by the machine or by a frame -/
def Cal (K : Frag) (f : Value) : Prop := (∃ id, f = .builtin id) ∨ (∃ t, f = .type t) ∨ ∃ a cl dd fd sl, f = .ref a ∧ a ∉ tabs ∧ K.lookup a = some ⟨cl, dd, .func fd, sl⟩
theorem Cal.keeps {c : Cx} {f : Value} (k : Cal c.K f) (h : Heap) (X : ∀ a o, c.K.lookup a = some o → a ∉ tabs → h.get? a = some o) :
    ∃ k, (k = Keeper.frame ∨ k = Keeper.machine ∨ k = Keeper.boundFrame) ∧ Looks (model PG c.w) h (keeperOf f) k := by
  rcases k with ⟨id, rfl⟩ | ⟨t, rfl⟩ | ⟨a, cl, dd, fd, sl, rfl, ha, hk⟩
  · exact ⟨.machine, .inr (.inl rfl), Looks.of_pure rfl⟩
  · exact ⟨.machine, .inr (.inl rfl), Looks.of_pure rfl⟩
  · exact ⟨.frame, .inl rfl, (Looks.ld (part := none) (X _ _ hk ha)).andThen .now⟩
theorem wp_callWith {c : Cx} {f : Value} {first : List Value} {pos : Pos} {es : List Expr} {s : Shared} {Q : Value → Shared → Prop} (k : Cal c.K f)
    (he : (backTo pos (starEach es c.env)).any (·.1) = false)
    (hne : ∀ P, wpAny (model PG c.w) c.A (spliced (backTo pos (starEach es c.env))) (fun vs s' => P ⟨vs, []⟩ s') NoE s → wpAny (model PG c.w) c.A (evalArgs f true (backTo pos (starEach es c.env)) []) P NoE s)
    (h : wpAny (model PG c.w) c.A (spliced (backTo pos (starEach es c.env))) (fun vs s₁ => Wd c.K s₁ ∧ wpAny (model PG c.w) c.A (call f (first ++ vs)) Q NoE s₁) NoE s) :
    wpAny (model PG c.w) c.A (callWith pos f first (backTo pos (starEach es c.env)) []) Q NoE s :=
  callWith_of (P := fun h => ∀ a o, c.K.lookup a = some o → a ∉ tabs → h.get? a = some o) (by rw [he]; rfl) (fun h X => k.keeps h X)
    (hne _ (wpAny_mono h (fun vs s₁ h₁ => ⟨h₁.1.st, h₁.2⟩) fun _ _ x => x))

theorem args1 {c : Cx} {pos : Pos} {e : Expr} {d : D} (h1 : Ev c e d) (he : ∀ env, starEach [e] env = [(false, eval e env)]) (ok : c.Ok) {s : Shared} (inv : c.Inv s) {Q : List Value → Shared → Prop}
    (h : ∀ v s', c.Inv s' → Up s s' → Rep c.w s'.heap v d → Q [v] s') : wpAny (model PG c.w) c.A (spliced (backTo pos (starEach [e] c.env))) Q NoE s := by
  refine wpAny_items_cons (h1 ok s _ inv fun v s1 i1 u1 r1 _ => wpAny_items_nil (h v s1 i1 u1 r1)) ?_
  rw [he]; rfl
theorem args2 {c : Cx} {pos : Pos} {e e' : Expr} {d d' : D} (h1 : Ev c e d) (h2 : Ev c e' d') (he : ∀ env, starEach [e, e'] env = [(false, eval e env), (false, eval e' env)]) (ok : c.Ok) {s : Shared} (inv : c.Inv s) {Q : List Value → Shared → Prop}
    (h : ∀ v v' s', c.Inv s' → Up s s' → Rep c.w s'.heap v d → Rep c.w s'.heap v' d' → Q [v, v'] s') : wpAny (model PG c.w) c.A (spliced (backTo pos (starEach [e, e'] c.env))) Q NoE s := by
  have he' : starEach [e'] c.env = [(false, eval e' c.env)] := by
    have := he c.env
    cases e <;> first | exact (List.cons.inj this).2 | exact absurd (congrArg Prod.fst (List.cons.inj this).1) (by decide)
  refine wpAny_items_cons (h1 ok s _ inv fun v s1 i1 u1 r1 _ => ?_) (by rw [he, he'])
  refine wpAny_items_cons (h2 ok s1 _ i1 fun v' s2 i2 u2 r2 _ => wpAny_items_nil (h v v' s2 i2 (u1.trans u2) (r1.up u2) r2)) ?_
  rw [he']; rfl
theorem args3 {c : Cx} {pos : Pos} {e e' e'' : Expr} {d d' d'' : D} (h1 : Ev c e d) (h2 : Ev c e' d') (h3 : Ev c e'' d'') (he : ∀ env, starEach [e, e', e''] env = [(false, eval e env), (false, eval e' env), (false, eval e'' env)]) (ok : c.Ok) {s : Shared} (inv : c.Inv s) {Q : List Value → Shared → Prop}
    (h : ∀ v v' v'' s', c.Inv s' → Up s s' → Rep c.w s'.heap v d → Rep c.w s'.heap v' d' → Rep c.w s'.heap v'' d'' → Q [v, v', v''] s') : wpAny (model PG c.w) c.A (spliced (backTo pos (starEach [e, e', e''] c.env))) Q NoE s := by
  have he' : starEach [e', e''] c.env = [(false, eval e' c.env), (false, eval e'' c.env)] := by
    have := he c.env
    cases e <;> first | exact (List.cons.inj this).2 | exact absurd (congrArg Prod.fst (List.cons.inj this).1) (by decide)
  have he'' : starEach [e''] c.env = [(false, eval e'' c.env)] := by
    have := he'
    cases e' <;> first | exact (List.cons.inj this).2 | exact absurd (congrArg Prod.fst (List.cons.inj this).1) (by decide)
  refine wpAny_items_cons (h1 ok s _ inv fun v s1 i1 u1 r1 _ => ?_) (by rw [he, he'])
  refine wpAny_items_cons (h2 ok s1 _ i1 fun v' s2 i2 u2 r2 _ => ?_) (by rw [he', he''])
  refine wpAny_items_cons (h3 ok s2 _ i2 fun v'' s3 i3 u3 r3 _ => wpAny_items_nil (h v v' v'' s3 i3 ((u1.trans u2).trans u3) ((r1.up u2).up u3) (r2.up u3) r3)) ?_
  rw [he'']; rfl

theorem Ev.call1 {c : Cx} {x : Str} {p pos : Pos} {e : Expr} {f : Value} {d d' : D} (hf : Ev c (.Name x p) (.val f)) (k : Cal c.K f) (h1 : Ev c e d) (h2 : CallR1 c f d d')
    (he : ∀ env, starEach [e] env = [(false, eval e env)] := by intro _; rfl) : Ev c (.Call (.Name x p) [e] [] pos) d' :=
  Ev.mk fun ok s Q inv h => wpAny_Call_NameR (hf ok s _ inv fun v0 s0 i0 u0 r0 _ => by
    cases r0
    refine wp_callWith (first := []) k (by rw [he]; rfl) (fun P hp => by rw [he] at hp ⊢; exact evalArgs_plain hp) (args1 h1 he ok i0 fun v s1 i1 u1 r1 => ⟨i1.wd, ?_⟩)
    exact h2 ok s1 v Q i1 r1 fun v' s' i u r n => h v' s' i ((u0.trans u1).trans u) r n)
theorem Ev.call2 {c : Cx} {x : Str} {p pos : Pos} {e e' : Expr} {f : Value} {d1 d2 d' : D} (hf : Ev c (.Name x p) (.val f)) (k : Cal c.K f) (h1 : Ev c e d1) (h1' : Ev c e' d2) (h2 : CallR2 c f d1 d2 d')
    (he : ∀ env, starEach [e, e'] env = [(false, eval e env), (false, eval e' env)] := by intro _; rfl) : Ev c (.Call (.Name x p) [e, e'] [] pos) d' :=
  Ev.mk fun ok s Q inv h => wpAny_Call_NameR (hf ok s _ inv fun v0 s0 i0 u0 r0 _ => by
    cases r0
    refine wp_callWith (first := []) k (by rw [he]; rfl) (fun P hp => by rw [he] at hp ⊢; exact evalArgs_plain hp) (args2 h1 h1' he ok i0 fun v v' s1 i1 u1 r1 r1' => ⟨i1.wd, ?_⟩)
    exact h2 ok s1 v v' Q i1 r1 r1' fun v' s' i u r n => h v' s' i ((u0.trans u1).trans u) r n)
theorem Ev.call3 {c : Cx} {x : Str} {p pos : Pos} {e e' e'' : Expr} {f : Value} {d1 d2 d3 d' : D} (hf : Ev c (.Name x p) (.val f)) (k : Cal c.K f) (h1 : Ev c e d1) (h1' : Ev c e' d2) (h1'' : Ev c e'' d3) (h2 : CallR3 c f d1 d2 d3 d')
    (he : ∀ env, starEach [e, e', e''] env = [(false, eval e env), (false, eval e' env), (false, eval e'' env)] := by intro _; rfl) : Ev c (.Call (.Name x p) [e, e', e''] [] pos) d' :=
  Ev.mk fun ok s Q inv h => wpAny_Call_NameR (hf ok s _ inv fun v0 s0 i0 u0 r0 _ => by
    cases r0
    refine wp_callWith (first := []) k (by rw [he]; rfl) (fun P hp => by rw [he] at hp ⊢; exact evalArgs_plain hp) (args3 h1 h1' h1'' he ok i0 fun v v' v'' s1 i1 u1 r1 r1' r1'' => ⟨i1.wd, ?_⟩)
    exact h2 ok s1 v v' v'' Q i1 r1 r1' r1'' fun v' s' i u r n => h v' s' i ((u0.trans u1).trans u) r n)

/-- len -/
theorem CallR1.lenS {c : Cx} {x : List Nat} (hs : x.length ≤ 1000000) : CallR1 c (.builtin "len") (.f (.str x)) (.f (.int x.length)) := fun ok s v Q inv r h => by
  cases r
  have e : (⟨x.toArray⟩ : Str).length = x.length := by simp [Str.length]
  refine P.len_str (by rw [e]; omega) ?_
  rw [e]
  exact h _ _ (inv.tok0 ok _) Up.tok (.int _ _) trivial
theorem CallR1.lenL {c : Cx} {xs : List F} (hs : xs.length ≤ 1000000) : CallR1 c (.builtin "len") (.list xs) (.f (.int xs.length)) := fun ok s v Q inv r h => by
  obtain ⟨l, vs, n, rfl, ho, hl, q⟩ := list_is r
  have e : (vs.toArray.size : Int) = xs.length := by simp [q.length]
  refine call_len_list hl (by rw [e]; omega) ?_
  rw [e]
  exact h _ _ (inv.tok0 ok _) Up.tok (.int _ _) trivial

/-- methods of texts -/
theorem Ev.methS {c : Cx} {o e : Expr} {name : Str} {apos pos : Pos} {id : String} {x : List Nat} {d d' : D} (ho : Ev c o (.f (.str x))) (slot : Slot "str" name id) (hty : typeOf (.builtin id) = pure (.type "method_descriptor"))
    (h1 : Ev c e d) (h2 : CallR2 c (.builtin id) (.f (.str x)) d d') (he : ∀ env, starEach [e] env = [(false, eval e env)] := by intro _; rfl)
    (hbase : ∀ env, attributeBase o name env (eval o env) = eval o env := by intro _; rfl) (hline : (apos.endLine == pos.line) = true := by rfl) : Ev c (.Call (.Attribute o name apos) [e] [] pos) d' :=
  Ev.mk fun ok s Q inv h => wpAny_Call_method_lateS (hbase _) (by rw [he]; rfl) hline (ho ok s _ inv fun v0 s0 i0 u0 r0 _ => by
    refine ⟨"str", id, PySem.F.plainAttrs_str, slot, hty, by cases r0; exact typeIs_str _ _ _, (by cases r0; exact fun _ e => nomatch e), ?_⟩
    refine wp_callWith (first := [v0]) (.inl ⟨_, rfl⟩) (by rw [he]; rfl) (fun P hp => by rw [he] at hp ⊢; exact evalArgs_plain hp) (args1 h1 he ok i0 fun v s1 i1 u1 r1 => ⟨i1.wd, ?_⟩)
    exact h2 ok s1 v0 v Q i1 (Rep.up (d := .f (.str x)) (w := c.w) u1 r0) r1 fun v' s' i u r n => h v' s' i ((u0.trans u1).trans u) r n)
theorem Ev.methS2 {c : Cx} {o e e' : Expr} {name : Str} {apos pos : Pos} {id : String} {x : List Nat} {d1 d2 d' : D} (ho : Ev c o (.f (.str x))) (slot : Slot "str" name id) (hty : typeOf (.builtin id) = pure (.type "method_descriptor"))
    (h1 : Ev c e d1) (h1' : Ev c e' d2) (h2 : CallR3 c (.builtin id) (.f (.str x)) d1 d2 d') (he : ∀ env, starEach [e, e'] env = [(false, eval e env), (false, eval e' env)] := by intro _; rfl)
    (hbase : ∀ env, attributeBase o name env (eval o env) = eval o env := by intro _; rfl) (hline : (apos.endLine == pos.line) = true := by rfl) : Ev c (.Call (.Attribute o name apos) [e, e'] [] pos) d' :=
  Ev.mk fun ok s Q inv h => wpAny_Call_method_lateS (hbase _) (by rw [he]; rfl) hline (ho ok s _ inv fun v0 s0 i0 u0 r0 _ => by
    refine ⟨"str", id, PySem.F.plainAttrs_str, slot, hty, by cases r0; exact typeIs_str _ _ _, (by cases r0; exact fun _ e => nomatch e), ?_⟩
    refine wp_callWith (first := [v0]) (.inl ⟨_, rfl⟩) (by rw [he]; rfl) (fun P hp => by rw [he] at hp ⊢; exact evalArgs_plain hp) (args2 h1 h1' he ok i0 fun v v' s1 i1 u1 r1 r1' => ⟨i1.wd, ?_⟩)
    exact h2 ok s1 v0 v v' Q i1 (Rep.up (d := .f (.str x)) (w := c.w) u1 r0) r1 r1' fun v' s' i u r n => h v' s' i ((u0.trans u1).trans u) r n)

/-- join -/
def joinL (sep : List Nat) : List (List Nat) → List Nat
  | [] => []
  | [x] => x
  | x :: r => x ++ sep ++ joinL sep r
theorem join_is (sep : List Nat) (ls : List (List Nat)) : Txt.join ⟨sep.toArray⟩ (ls.map fun l => ⟨l.toArray⟩) = ⟨(joinL sep ls).toArray⟩ := by
    show Builtin.Str.glued _ _ = _
    rw [StrLaws.glued_eq_join]
    induction ls with
    | nil => rfl
    | cons x r ih =>
      cases r with
      | nil => rfl
      | cons y r =>
        show (⟨x.toArray⟩ : Str) ++ ⟨sep.toArray⟩ ++ Str.join ⟨sep.toArray⟩ _ = _
        rw [List.map_cons] at ih
        have ih' : Str.join ⟨sep.toArray⟩ ((⟨y.toArray⟩ : Str) :: r.map fun l => ⟨l.toArray⟩) = ⟨(joinL sep (y :: r)).toArray⟩ := ih
        rw [List.map_cons, ih', str_append, str_append]
        rfl
theorem strs_of {h : Heap} : ∀ {vs : List Value} {ls : List (List Nat)}, RepFs h vs (ls.map F.str) → ∃ l : List (Str × Tok), vs = strValues l ∧ l.map (·.1) = ls.map fun x => ⟨x.toArray⟩
  | _, [], r => by cases r; exact ⟨[], rfl, rfl⟩
  | _, x :: ls, r => by
    cases r with
    | cons a b =>
      obtain ⟨l, e1, e2⟩ := strs_of b
      cases a
      rename_i t
      exact ⟨(⟨x.toArray⟩, t) :: l, by rw [e1]; rfl, by rw [List.map_cons, e2]; rfl⟩
theorem join_ok (sep : List Nat) (ls : List (List Nat)) (hs : (ls.map fun l => l.length + sep.length).sum ≤ 1000000) : JoinOk ⟨sep.toArray⟩ (ls.map fun l => ⟨l.toArray⟩) = true := by
  have key : ∀ (ls : List (List Nat)) (n : Nat), (ls.map fun l => (⟨l.toArray⟩ : Str)).foldl (· + ·.length + (⟨sep.toArray⟩ : Str).length) n = n + (ls.map fun l => l.length + sep.length).sum := by
    intro ls
    induction ls with
    | nil => intro n; simp
    | cons x r ih =>
      intro n
      rw [List.map_cons, List.foldl_cons, ih]
      simp [Str.length]; omega
  unfold JoinOk Builtin.Str.tooLong
  have e : ((ls.map fun l => (⟨l.toArray⟩ : Str)).toArray.foldl (· + ·.length + (⟨sep.toArray⟩ : Str).length) 0) = (ls.map fun l => l.length + sep.length).sum := by
    rw [List.foldl_toArray', key]
    all_goals first | rfl | omega
  rw [e, sizeLine_eq]
  simp; omega
theorem CallR2.join {c : Cx} {sep : List Nat} {ls : List (List Nat)} (hs : (ls.map fun l => l.length + sep.length).sum ≤ 1000000) : CallR2 c (.builtin "str.join") (.f (.str sep)) (.list (ls.map F.str)) (.f (.str (joinL sep ls))) := fun ok s v u Q inv r1 r2 h => by
  cases r1
  obtain ⟨l, vs, n, rfl, ho, hl, q⟩ := list_is r2
  obtain ⟨lt, rfl, e2⟩ := strs_of q
  refine PySem.SC.join hl e2 (join_ok sep ls hs) fun t' k => ?_
  rw [join_is]
  exact h _ _ (inv.tok0 ok _) Up.tok (.str _ _) trivial

/-- count of one sign -/
theorem cnt_count (ch : Nat) : ∀ l : List Nat, PyProof.Rows.cnt ch l = (l.count ch : Nat)
  | [] => rfl
  | n :: r => by
    rw [PyProof.Rows.cnt_cons, cnt_count ch r, List.count_cons]
    by_cases h : n = ch
    · subst h; simp; omega
    · rw [if_neg h]; simp [h]
theorem CallR2.count {c : Cx} {x : List Nat} {ch : Nat} : CallR2 c (.builtin "str.count") (.f (.str x)) (.f (.str [ch])) (.f (.int (x.count ch))) := fun ok s v u Q inv r1 r2 h => by
  cases r1; cases r2
  refine PySem.SC.count ?_
  have e : Txt.count ⟨x.toArray⟩ ⟨[ch].toArray⟩ = (x.count ch : Nat) := by
    rw [show (⟨[ch].toArray⟩ : Str) = ⟨#[ch]⟩ from rfl, PyProof.Rows.count_is]
    exact cnt_count ch x
  rw [e]
  exact h _ _ (inv.tok0 ok _) Up.tok (.int _ _) trivial
/-- a sign in a text -/
theorem CmpR.inS1 {c : Cx} {ch : Nat} {b : List Nat} : CmpR c .In (.f (.str [ch])) (.f (.str b)) (decide (ch ∈ b)) := fun ok s v1 v2 Q inv r1 r2 h => by
  refine CmpR.inS ok s v1 v2 Q inv r1 r2 ?_
  have := StrLaws.found_one ⟨b.toArray⟩ ch
  rw [show (⟨[ch].toArray⟩ : Str) = ⟨#[ch]⟩ from rfl, this]
  exact h

end Mine
end

section
open PySem PySem.W PyProof.Rows PySem.Calls
namespace Mine

/-- an iterator over data: its own objects, the objects that it hangs on -/
structure Wk (w : World) (I : Addr) (own dep : Addr → Prop) (kc : Obj → Prop) (xs : List F) (St : Nat → Heap → Prop) : Prop where
  ownIt : ∀ i h b, St i h → own b → ∃ o, h.get? b = some o ∧ isIt o
  frame : ∀ i h h', St i h → (∀ b o, dep b → kc o → h.get? b = some o → h'.get? b = some o) → KeepT h h' → St i h'
  item : ∀ (A : Around) i (s : Shared) x (Q : Option Value → Shared → Prop), A.handled = none → xs[i]? = some x → St i s.heap →
    (∀ v h' tk, RepF h' v x → St (i + 1) h' → (∀ b o, ¬ own b → s.heap.get? b = some o → h'.get? b = some o) → KeepT s.heap h' → Q (some v) { s with heap := h', toks := tk }) →
    wpAny (model PG w) A (pyNext (.ref I)) Q NoE s
  done : ∀ (A : Around) (s : Shared) (Q : Option Value → Shared → Prop), A.handled = none → St xs.length s.heap →
    (∀ h' tk, (∀ b o, ¬ own b → s.heap.get? b = some o → h'.get? b = some o) → KeepT s.heap h' → Q none { s with heap := h', toks := tk }) →
    wpAny (model PG w) A (pyNext (.ref I)) Q NoE s
  self : ∀ (A : Around) i (s : Shared) (Q : Value → Shared → Prop), A.handled = none → St i s.heap → Q (.ref I) s → wpAny (model PG w) A (pyIter (.ref I)) Q NoE s
  owned : ∀ (A : Around) i (s : Shared) v target (Q : Unit → Shared → Prop), A.handled = none → St i s.heap →
    (∀ h' tk, St i h' → (∀ b o, ¬ own b → s.heap.get? b = some o → h'.get? b = some o) → KeepT s.heap h' → Q () { s with heap := h', toks := tk }) →
    wpAny (model PG w) A (letOwnedTupleGo target (.ref I) v) Q NoE s

def ownedTypes : List String := ["enumerate", "zip", "dict_itemiterator", "dict_reverseitemiterator", "odict_iterator", "itertools.zip_longest", "itertools.pairwise"]
theorem owned_no {M : Model} {A : Around} {s : Shared} {I : Addr} {o : Obj} {n : String} {target : Expr} {v : Value} {Q : Unit → Shared → Prop} (ho : s.heap.get? I = some o) (hc : o.cls = .type n) (hn : ownedTypes.contains n = false) (h : Q () s) :
    wpAny M A (letOwnedTupleGo target (.ref I) v) Q NoE s := by
  have main : ∀ a : Addr, wpAny M A (do
      let o ← load I
      match o.cls, o.data with
      | .type n, .fields vs =>
        if ownedTypes.contains n && vs[0]? == some (rawInt a) then
          rule "for.unpacks-the-owned-tuple"
          updateField I 0 .none
      | _, _ => pure () : Sem Unit) Q NoE s := by
    intro a
    refine wpAny_bind (wpAny_load ho ?_)
    rw [hc]
    split
    · rename_i n' vs e _
      cases e
      rw [hn]
      simp only [Bool.false_and, Bool.false_eq_true, if_false]
      exact wpAny_pure h
    · exact wpAny_pure h
  unfold letOwnedTupleGo
  split
  · split
    · rename_i r a e
      cases e
      exact main _
    · exact wpAny_pure h
  · split
    · rename_i r a e
      cases e
      exact main _
    · exact wpAny_pure h
  · exact wpAny_pure h

theorem Wk.of {w : World} {I : Addr} {xs : List F} {fp : List Addr} {P : Nat → Value → Prop} {St : Nat → Heap → Prop} {h0 : Heap} {kc : Obj → Prop}
    (W : ∀ A : Around, A.handled = none → Walks PG w A I fp [I] xs.length P St)
    (hI : ∀ i h, St i h → ∃ o n fs, h.get? I = some o ∧ o.cls = .type n ∧ o.data = .fields fs ∧ ownedTypes.contains n = false)
    (hP : ∀ i v, P i v → ∃ x, xs[i]? = some x ∧ RepF h0 v x) (hT : ∀ i h, St i h → ∀ b ∈ fp, ∀ o, h.get? b = some o → kc o) : Wk w I (· = I) (· ∈ fp) kc xs fun i h => St i h ∧ KeepT h0 h := by
  have W0 := W {} rfl
  have kt : ∀ {i : Nat} {h h' : Heap}, St i h → (∀ b o, b ∉ [I] → h.get? b = some o → h'.get? b = some o) → KeepT h h' := fun {i h h'} st hk b o e _ ⟨items, n, hd⟩ => by
    obtain ⟨o', _, fs, ho, _, hd', _⟩ := hI i h st
    refine hk b o (fun hb => ?_) e
    simp at hb
    subst hb
    rw [e] at ho; cases ho; rw [hd] at hd'; cases hd'
  have sub : ∀ {h h' : Heap}, (∀ b o, b ∉ [I] → h.get? b = some o → h'.get? b = some o) → ∀ b o, ¬ (b = I) → h.get? b = some o → h'.get? b = some o := fun hk b o hb e => hk b o (fun hm => hb (by simpa using hm)) e
  refine ⟨fun i h b st hb => by subst hb; exact let ⟨o, n, fs, ho, hc, hd, _⟩ := hI i h st.1; ⟨o, ho, n, fs, hc, hd⟩, fun i h h' st hk k => ⟨W0.frame i h h' st.1 fun b hb o e => hk b o hb (hT i h st.1 b hb o e) e, st.2.trans k⟩, fun A i s x Q hA hx st hQ => ?_, fun A s Q hA st hQ => ?_, fun A i s Q hA st hQ => ?_, fun A i s v target Q hA st hQ => ?_⟩
  · have hlt : i < xs.length := (List.getElem?_eq_some_iff.mp hx).1
    refine (W A hA).item i s Q NoE hlt st.1 fun v h' tk hp st' hk => ?_
    obtain ⟨x', hx', r⟩ := hP i v hp
    rw [hx] at hx'; cases hx'
    have k := kt st.1 hk
    exact hQ v h' tk (r.keepT (st.2.trans k)) ⟨st', st.2.trans k⟩ (sub hk) k
  · exact (W A hA).done s Q NoE st.1 fun h' tk hk => hQ h' tk (sub hk) (kt st.1 hk)
  · exact (W A hA).self i s Q NoE st.1 hQ
  · obtain ⟨o, n, fs, ho, hc, _, hn⟩ := hI i _ st.1
    exact owned_no ho hc hn (hQ s.heap s.toks st (fun _ _ _ e => e) (.of fun _ _ e => e))

/-- an expression as a source of a loop -/
def It (c : Cx) (e : Expr) (kc : Obj → Prop) (xs : List F) : Prop :=
  c.Ok → ∀ (s : Shared) (Q : Value → Shared → Prop), c.Inv s →
    (∀ I own dep St s', c.Inv s' → Up s s' → Wk c.w I own dep kc xs St → St 0 s'.heap → (∀ b, own b → s.heap.get? b = none) → (∀ b, dep b → ∃ o, s'.heap.get? b = some o) → (∀ b, own b → dep b) → Q (.ref I) s') →
    wpAny (model PG c.w) c.A (eval e c.env) (fun x s₁ => wpAny (model PG c.w) c.A (pyIter x) Q NoE s₁) NoE s
theorem It.mk {c : Cx} {e : Expr} {kc : Obj → Prop} {xs : List F} (H : c.Ok → ∀ (s : Shared) (Q : Value → Shared → Prop), c.Inv s →
    (∀ I own dep St s', c.Inv0 s' → Up s s' → Wk c.w I own dep kc xs St → St 0 s'.heap → (∀ b, own b → s.heap.get? b = none) → (∀ b, dep b → ∃ o, s'.heap.get? b = some o) → (∀ b, own b → dep b) → Q (.ref I) s') →
    wpAny (model PG c.w) c.A (eval e c.env) (fun x s₁ => wpAny (model PG c.w) c.A (pyIter x) Q NoE s₁) NoE s) : It c e kc xs := fun ok s Q inv h =>
  wpAny_with_toks inv.pos (toE (wpAny_mono (H ok s (fun v s' => 1 ≤ s'.toks → Q v s') inv fun I own dep St s' i u W st a b d p => h I own dep St s' ⟨i, p⟩ u W st a b d)
    (fun x s₁ h₁ pos => wpAny_with_toks pos (toE h₁)) fun _ _ x => x))

def kcL (o : Obj) : Prop := isIt o ∨ isSeqT "list" o
def kcT (o : Obj) : Prop := isIt o ∨ isSeqT "tuple" o
theorem fresh_size {h : Heap} {b : Addr} (hb : h.objs.size ≤ b) : h.get? b = none := by
  cases e : h.get? b with
  | none => rfl
  | some o => exact absurd (Heap.lt_size e) (Nat.not_lt.mpr hb)

theorem Rep.notFresh {w : World} {h : Heap} {v : Value} {d : D} {L : Addr} (r : Rep w h v d) (hL : h.get? L = none) : d.notAt L := by
  cases d with
  | f _ => trivial
  | list _ => trivial
  | mlist _ _ => trivial
  | val _ => trivial
  | dict a _ =>
    obtain ⟨_, _, o, kvs', ho, _⟩ := r
    rintro rfl; rw [hL] at ho; cases ho
  | pile x dx _ =>
    obtain ⟨_, vs, n, es, m, h1, h2, _⟩ := r
    exact ⟨by (rintro rfl; rw [hL] at h1; cases h1), by (rintro rfl; rw [hL] at h2; cases h2)⟩

theorem It.list {c : Cx} {e : Expr} {xs : List F} (h1 : Ev c e (.list xs)) : It c e kcL xs := It.mk fun ok s Q inv h => by
  refine h1 ok s _ inv fun v s1 i1 u1 r1 _ => ?_
  obtain ⟨l, vs, n, rfl, ho, hl, q⟩ := list_is r1
  have hne : l ≠ s1.heap.objs.size := Nat.ne_of_lt (Heap.lt_size ho)
  refine wpAny_pyIter_list hl ?_
  refine h s1.heap.objs.size _ _ _ _ (i1.push0 ok _ _) (u1.trans Up.push) (Wk.of (h0 := s1.heap) (fp := [s1.heap.objs.size, l]) (P := fun i v => vs.toArray[i]? = some v)
    (St := fun i h => h.IsListIter s1.heap.objs.size l i ∧ h.IsList l vs.toArray) (fun A hA => by have := Walks.list (prog := PG) (w := c.w) hA s1.heap.objs.size l hne vs.toArray; rwa [show vs.toArray.size = xs.length by simp [q.length]] at this)
    (fun i hh st => let ⟨o, ho, hc, hd⟩ := st.1; ⟨o, _, _, ho, hc, hd, by decide⟩) (fun i v hv => q.get' (by simpa using hv)) (fun i hh st b hb o e => by
      obtain ⟨⟨o1, h1, c1, d1⟩, o2, h2, c2, n2, d2⟩ := st
      simp at hb
      rcases hb with rfl | rfl
      · rw [e] at h1; cases h1; exact .inl ⟨_, _, c1, d1⟩
      · rw [e] at h2; cases h2; exact .inr ⟨c2, _, _, d2⟩))
    ⟨⟨⟨_, Heap.get?_push_size _ rfl, rfl, rfl⟩, hl.push _⟩, .of fun _ _ e => Heap.get?_push_of_some _ e⟩ (fun b hb => u1.none (hb ▸ fresh_size (Nat.le_refl _))) (fun b hb => ?_) (fun b hb => by simp [hb])
  simp at hb
  rcases hb with rfl | rfl
  · exact ⟨_, Heap.get?_push_size _ rfl⟩
  · exact ⟨_, Heap.get?_push_of_some _ ho⟩
theorem It.tup {c : Cx} {e : Expr} {xs : List F} (h1 : Ev c e (.f (.tup xs))) : It c e kcT xs := It.mk fun ok s Q inv h => by
  refine h1 ok s _ inv fun v s1 i1 u1 r1 _ => ?_
  cases r1 with
  | tup ht q =>
    rename_i l vs
    obtain ⟨o, ho, hc, n, hd⟩ := id ht
    have hl : s1.heap.IsTuple l vs.toArray := by
      first
        | exact ht
        | exact ⟨o, ho, hc, n, hd⟩
    have hne : l ≠ s1.heap.objs.size := Nat.ne_of_lt (Heap.lt_size ho)
    refine wpAny_pyIter_tuple hl ?_
    refine h s1.heap.objs.size _ _ _ _ (i1.push0 ok _ _) (u1.trans Up.push) (Wk.of (h0 := s1.heap) (fp := [s1.heap.objs.size, l]) (P := fun i v => vs.toArray[i]? = some v)
      (St := fun i h => h.IsTupleIter s1.heap.objs.size l i ∧ h.IsTuple l vs.toArray) (fun A hA => by have := Walks.tuple (prog := PG) (w := c.w) hA s1.heap.objs.size l hne vs.toArray; rwa [show vs.toArray.size = xs.length by simp [q.length]] at this)
      (fun i hh st => let ⟨o, ho, hc, hd⟩ := st.1; ⟨o, _, _, ho, hc, hd, by decide⟩) (fun i v hv => q.get' (by simpa using hv)) (fun i hh st b hb o e => by
        obtain ⟨⟨o1, h1, c1, d1⟩, o2, h2, c2, n2, d2⟩ := st
        simp at hb
        rcases hb with rfl | rfl
        · rw [e] at h1; cases h1; exact .inl ⟨_, _, c1, d1⟩
        · rw [e] at h2; cases h2; exact .inr ⟨c2, _, _, d2⟩))
      ⟨⟨⟨_, Heap.get?_push_size _ rfl, rfl, rfl⟩, hl.push _⟩, .of fun _ _ e => Heap.get?_push_of_some _ e⟩ (fun b hb => u1.none (hb ▸ fresh_size (Nat.le_refl _))) (fun b hb => ?_) (fun b hb => by simp [hb])
    simp at hb
    rcases hb with rfl | rfl
    · exact ⟨_, Heap.get?_push_size _ rfl⟩
    · exact ⟨_, Heap.get?_push_of_some _ ho⟩
theorem It.str {c : Cx} {e : Expr} {x : List Nat} (h1 : Ev c e (.f (.str x))) : It c e isIt (x.map fun k => .str [k]) := It.mk fun ok s Q inv h => by
  refine h1 ok s _ inv fun v s1 i1 u1 r1 _ => ?_
  cases r1
  rename_i t
  have hP : ∀ i v, SignAt ⟨x.toArray⟩ i v → ∃ y, (x.map fun k => F.str [k])[i]? = some y ∧ RepF s1.heap v y := fun i v ⟨k, u, hk, e⟩ => ⟨.str [k], by simpa using hk, by subst e; exact .str [k] u⟩
  cases ha : x.toArray.all (· < 128)
  · refine wpAny_pyIter_wide ha ?_
    refine h s1.heap.objs.size _ _ _ _ (i1.push0 ok _ _) (u1.trans Up.push) (Wk.of (h0 := s1.heap) (fp := [s1.heap.objs.size]) (St := fun i h => h.IsStrIter s1.heap.objs.size "str_iterator" ⟨x.toArray⟩ t i) (P := SignAt ⟨x.toArray⟩) (fun A hA => by have := Walks.strWide (prog := PG) (w := c.w) hA s1.heap.objs.size ⟨x.toArray⟩ t; rwa [show (⟨x.toArray⟩ : Str).cps.size = (x.map fun k => F.str [k]).length by simp] at this)
      (fun i hh st => let ⟨o, ho, hc, hd⟩ := st; ⟨o, _, _, ho, hc, hd, by decide⟩) hP (fun i hh st b hb o e => by
        obtain ⟨o1, h1, c1, d1⟩ := st
        simp at hb
        subst hb
        rw [e] at h1; cases h1; exact ⟨_, _, c1, d1⟩)) ⟨⟨_, Heap.get?_push_size _ rfl, rfl, rfl⟩, .of fun _ _ e => Heap.get?_push_of_some _ e⟩ (fun b hb => u1.none (hb ▸ fresh_size (Nat.le_refl _))) (fun b hb => ?_) (fun b hb => by simp [hb])
    simp at hb
    subst hb
    exact ⟨_, Heap.get?_push_size _ rfl⟩
  · refine wpAny_pyIter_ascii ha ?_
    refine h s1.heap.objs.size _ _ _ _ (i1.push0 ok _ _) (u1.trans Up.push) (Wk.of (h0 := s1.heap) (fp := [s1.heap.objs.size]) (St := fun i h => h.IsStrIter s1.heap.objs.size "str_ascii_iterator" ⟨x.toArray⟩ t i) (P := SignAt ⟨x.toArray⟩) (fun A hA => by have := Walks.strAscii (prog := PG) (w := c.w) hA s1.heap.objs.size ⟨x.toArray⟩ t; rwa [show (⟨x.toArray⟩ : Str).cps.size = (x.map fun k => F.str [k]).length by simp] at this)
      (fun i hh st => let ⟨o, ho, hc, hd⟩ := st; ⟨o, _, _, ho, hc, hd, by decide⟩) hP (fun i hh st b hb o e => by
        obtain ⟨o1, h1, c1, d1⟩ := st
        simp at hb
        subst hb
        rw [e] at h1; cases h1; exact ⟨_, _, c1, d1⟩)) ⟨⟨_, Heap.get?_push_size _ rfl, rfl, rfl⟩, .of fun _ _ e => Heap.get?_push_of_some _ e⟩ (fun b hb => u1.none (hb ▸ fresh_size (Nat.le_refl _))) (fun b hb => ?_) (fun b hb => by simp [hb])
    simp at hb
    subst hb
    exact ⟨_, Heap.get?_push_size _ rfl⟩

end Mine
end

section
open PySem PySem.W PyProof.Rows PySem.Calls
namespace Mine

def rngF (n : Nat) : List F := (List.range n).map fun (i : Nat) => F.int (i : Int)

/-- range(n) as a source -/
theorem It.range {c : Cx} {p pos : Pos} {e : Expr} {n : Nat} (hf : Ev c (.Name "range" p) (.val (.type "range"))) (h1 : Ev c e (.f (.int n))) (hn : n ≤ 1000)
    (he : ∀ env, starEach [e] env = [(false, eval e env)] := by intro _; rfl) : It c (.Call (.Name "range" p) [e] [] pos) isIt (rngF n) := It.mk fun ok s Q inv h => by
  refine wpAny_Call_NameR (hf ok s _ inv fun v0 s0 i0 u0 r0 _ => ?_)
  cases r0
  refine wp_callWith (first := []) (.inr (.inl ⟨_, rfl⟩)) (by rw [he]; rfl) (fun P hp => by rw [he] at hp ⊢; exact evalArgs_plain hp) (args1 h1 he ok i0 fun v s1 i1 u1 r1 => ⟨i1.wd, ?_⟩)
  cases r1
  rename_i t
  refine call_range_1 ?_
  have i2 := i1.push0 ok { cls := .type "range", data := .fields #[.int 0 s1.toks, .int n t, .int 1 (s1.toks + 1)] } (s1.toks + 1 + 1)
  have u2 : Up s1 { s1 with heap := s1.heap.push { cls := .type "range", data := .fields #[.int 0 s1.toks, .int n t, .int 1 (s1.toks + 1)] }, toks := s1.toks + 1 + 1 } := Up.push
  refine wpAny_pyIter_range (a := 0) (b := n) (c := 1) (Heap.get?_push_size _ rfl) (small_one (by omega) (by omega) (by omega) (by omega)) ?_
  generalize hH : s1.heap.push { cls := .type "range", data := .fields #[.int 0 s1.toks, .int n t, .int 1 (s1.toks + 1)] } = H at i2 u2 ⊢
  have hsz : Builtin.Range.rangeSize 0 n 1 = n := by rw [rangeSize_one]; split <;> omega
  rw [hsz]
  refine h H.objs.size _ _ _ _ (i2.keeps ok fun _ _ e => Heap.get?_push_of_some _ e) (((u0.trans u1).trans u2).trans Up.push) (Wk.of (h0 := H) (fp := [H.objs.size]) (P := fun i v => i < n ∧ ∃ t, v = .int (0 + (i : Int) * 1) t)
    (St := fun i h => IsRangeIter h H.objs.size (0 + (i : Nat) * 1) ((n : Int) - (i : Nat)) 1) (fun A hA => ?_) (fun i hh st => ⟨_, _, _, st, rfl, rfl, by decide⟩) (fun i v hv => ?_) (fun i hh st b hb o e => by
      simp at hb
      subst hb
      rw [show hh.get? H.objs.size = _ from st] at e; cases e; exact ⟨_, _, rfl, rfl⟩))
    ⟨?_, .of fun _ _ e => Heap.get?_push_of_some _ e⟩ (fun b hb => ((u0.trans u1).trans u2).none (hb ▸ fresh_size (Nat.le_refl _))) (fun b hb => ?_) (fun b hb => by simp [hb])
  · have W := Walks.range (prog := PG) (w := c.w) hA H.objs.size 0 1 n
    have hl : (rngF n).length = n := by simp [rngF]
    rw [hl]
    exact ⟨W.sub, W.frame, fun i s Q E hi st hQ => W.item i s Q E hi st fun v h' tk hp => hQ v h' tk ⟨hi, hp⟩, W.done, W.self⟩
  · obtain ⟨hi, t', e⟩ := hv
    refine ⟨.int (i : Int), by simp [rngF, hi], ?_⟩
    subst e
    rw [show (0 : Int) + (i : Int) * 1 = i by omega]
    exact .int _ _
  · have := Heap.get?_push_size H (o := { cls := .type "range_iterator", data := .fields #[rawInt 0, rawInt (n : Int), rawInt 1] }) rfl
    simpa using this
  · simp at hb
    subst hb
    exact ⟨_, Heap.get?_push_size _ rfl⟩

/-- a target bound to a datum -/
inductive Tgt : Expr → F → List (Str × F) → Prop
  | name {x : Str} {p : Pos} {d : F} : Tgt (.Name x p) d [(x, d)]
  | pair {a b : Str} {pa pb p : Pos} {k : Nat} {d e : F} : a ≠ b → Tgt (.Tuple [.Name a pa, .Name b pb] k p) (.tup [d, e]) [(b, e), (a, d)]

theorem wp_assign {w : World} {A : Around} {env : Env} {s : Shared} {target : Expr} {v : Value} {x : F} {bs : List (Str × F)} {m : Str → Option Value} {Q : Unit → Shared → Prop} (hA : A.handled = none) (hk : env.scope.kind = .function)
    (T : Tgt target x bs) (hl : ∀ p ∈ bs, env.kindOf p.1 = some .local) (n : s.heap.Ns env.locals m) (r : RepF s.heap v x)
    (h : ∀ h' tk m', h'.Ns env.locals m' → (∀ p ∈ bs, ∃ v, m' p.1 = some v ∧ RepF h' v p.2) → (∀ y, bs.lookup y = none → m' y = m y) → (∀ b o, b ≠ env.locals → s.heap.get? b = some o → h'.get? b = some o) → KeepD env.locals s.heap h' →
      Q () { s with heap := h', toks := tk }) : wpAny (model PG w) A (assign target env v) Q NoE s := by
  have hp : (env.scope.kind == .class || (env.scope.kind == .module && env.locals != env.globals)) = false := by rw [hk]; rfl
  cases T with
  | name =>
    rename_i y p
    refine wpAny_assign_Name (wpAny_storeName_local (hl _ (.head _)) n (fun h' hn hs => ?_) hp)
    have kd := KeepD.ns n hs
    refine h h' _ _ hn (fun q hq => ?_) (fun z hz => ?_) (fun b o hb e => hs.extBut b o hb e) kd
    · simp at hq; subst hq
      exact ⟨v, by simp, r.keepT kd.keepT⟩
    · have : z ≠ y := by rintro rfl; simp at hz
      simp [this]
  | pair hne =>
    rename_i a b pa pb p k d e
    cases r with
    | tup ht q =>
      rename_i l vs
      cases q with
      | cons ra q =>
        rename_i va vs
        cases q with
        | cons rb q =>
          rename_i vb vs
          cases q
          have ht' : s.heap.IsTuple l [va, vb].toArray := by
            obtain ⟨o, ho, hc, n', hd⟩ := ht
            exact ⟨o, ho, hc, n', hd⟩
          refine wpAny_assign_Tuple hA ht' rfl rfl fun h₁ hx => ?_
          have nlt : env.locals ≠ s.heap.objs.size := Nat.ne_of_lt n.lt
          have k1 : KeepD env.locals s.heap h₁ := fun b' o e _ => hx b' o (Nat.ne_of_lt (Heap.lt_size e)) e
          have n1 := n.extBut hx nlt
          refine wpAny_assignInOrder_more (wpAny_assign_Name (wpAny_storeName_local (hl (a, d) (by simp)) n1 (fun h₂ hn₂ hs₂ => ?_) hp))
          have k2 := KeepD.ns n1 hs₂
          refine wpAny_assignInOrder_more (wpAny_assign_Name (wpAny_storeName_local (hl (b, e) (by simp)) hn₂ (fun h₃ hn₃ hs₃ => ?_) hp))
          have k3 := KeepD.ns hn₂ hs₃
          have kk : KeepD env.locals s.heap h₃ := fun b' o e1 e2 => k3 b' o (k2 b' o (k1 b' o e1 e2) e2) e2
          refine wpAny_assignInOrder_none (h h₃ _ _ hn₃ (fun q hq => ?_) (fun z hz => ?_) (fun b' o hb e' => hs₃.extBut b' o hb (hs₂.extBut b' o hb (hx b' o (Nat.ne_of_lt (Heap.lt_size e')) e'))) kk)
          · simp at hq
            rcases hq with rfl | rfl
            · exact ⟨vb, by simp, rb.keepT kk.keepT⟩
            · exact ⟨va, by simp [hne], ra.keepT kk.keepT⟩
          · have h1 : z ≠ b := by rintro rfl; simp at hz
            have h2 : z ≠ a := by
              rintro rfl
              simp [h1] at hz
            simp [h1, h2]

/-- the tests of a comprehension -/
def Tests (c : Cx) (ifs : List Expr) (b : Bool) : Prop := (ifs = [] ∧ b = true) ∨ ∃ t, ifs = [t] ∧ Ts c t b
def subC (c : Cx) (scope : Scope) (cl : List (Str × Addr)) (C : Addr) (B : Shared) (vars : List (Str × D)) : Cx := { c with env := compEnvC scope cl C c.env, B := B, own := [], vars := vars }
/-- what a comprehension takes over from around it -/
inductive Caps (c : Cx) (scope : Scope) (cl : List (Str × Addr)) : List (Str × D) → Prop
  | nil : Caps c scope cl []
  | cons {y : Str} {d : D} {a : Addr} {cap : List (Str × D)} (h1 : c.vars.lookup y = some d) (h2 : (relabel scope c.env).names.lookup y = some .cell) (h3 : c.env.kindOf y = some .cell) (h4 : c.env.cells.lookup y = some a)
      (h5 : cl.lookup y = some a) (h6 : (y == ("__classdict__" : Str)) = false) : Caps c scope cl cap → Caps c scope cl ((y, d) :: cap)
def dF (bs : List (Str × F)) : List (Str × D) := bs.map fun p => (p.1, D.f p.2)

theorem Caps.has {c : Cx} {scope : Scope} {cl : List (Str × Addr)} {C : Addr} {h : Heap} : ∀ {cap : List (Str × D)}, Caps c scope cl cap → (∀ p ∈ c.vars, Has c.w c.env h p.1 p.2) → (∀ v d, Rep c.w h v d → d.notAt C) →
    ∀ p ∈ cap, Has c.w (compEnvC scope cl C c.env) h p.1 p.2
  | _, .nil, _, _, p, hp => nomatch hp
  | _, .cons h1 h2 h3 h4 h5 h6 r, hv, hC, p, hp => by
    rcases List.mem_cons.mp hp with rfl | hp
    · obtain ⟨v, b, rp, _⟩ := hv _ (lookup_mem h1)
      refine ⟨v, .inr ⟨.inl h2, h6, _, h5, ?_⟩, rp, hC _ _ rp⟩
      rcases b with ⟨k, _⟩ | ⟨_, _, a', e, hc⟩
      · rw [h3] at k; cases k
      · rw [h4] at e; cases e; exact hc
    · exact r.has hv hC p hp

theorem compLoop_own {w : World} {A : Around} {R : Result → Shared → Prop} {s : Shared} {elt target iter : Expr} {ifs : List Expr} {scope : Scope} {pos : Pos} {it acc : Value} {env : Env} (I : Nat → Shared → Prop)
    (turn : ∀ n s, I n s → wpAny (model PG w) A (pyNext it) (fun r s₁ => match r with
      | none => R (.ok .next) s₁
      | some v => wpAny (model PG w) A (letOwnedTupleGo target it v) (fun _ s₁' => wpAny (model PG w) A (assign target env v) (fun _ s₂ =>
          wpAny (model PG w) A (forIn ifs true fun c r => if r = true then do let ok ← isTrue c env (eval c env); pure (ForInStep.yield ok) else pure (ForInStep.yield r)) (fun ok s₃ =>
            if ok = true then wpAny (model PG w) A (eval elt env) (fun x s₄ =>
              wpAny (model PG w) A (call (.builtin "list.append") [acc, x]) (fun _ s₅ => ∃ m, m < n ∧ I m s₅) NoE s₄) NoE s₃
            else ∃ m, m < n ∧ I m s₃) NoE s₂) NoE s₁') NoE s₁) NoE s)
    (n : Nat) (h : I n s) :
    codeAny (model PG w) A (.compLoop (.ListComp elt [⟨target, iter, ifs, 0⟩] scope pos) 0 it acc env) R s := by
  refine codeAny_loop rfl I (fun n s hI => ?_) n h
  show wpAny _ A ((compTurn (.ListComp elt [⟨target, iter, ifs, 0⟩] scope pos) 0 it acc env).onRaise (fun x => do noteFrame x env; theTreesLotGoes x)) _ _ s
  refine wpAny_noted (toE ?_)
  rw [compTurn_list]
  refine wpAny_bind (wpAny_standAt (wpAny_bind (wpAny_mono (turn n s hI) (fun r s₁ h₁ => ?_) fun _ _ h' => h')))
  cases r with
  | none => exact wpAny_pure h₁
  | some v =>
    refine wpAny_bind (wpAny_mono h₁ (fun _ s₁' h₁' => wpAny_bind (wpAny_mono h₁' (fun _ s₂ h₂ => wpAny_bind (wpAny_mono h₂ (fun ok s₃ h₃ => ?_) fun _ _ h' => h')) fun _ _ h' => h')) fun _ _ h' => h')
    cases ok with
    | false => exact wpAny_pure ⟨rfl, h₃⟩
    | true =>
      exact wpAny_bind (wpAny_bind (wpAny_mono h₃ (fun x s₄ h₄ => wpAny_bind (wpAny_mono h₄ (fun _ s₅ h₅ => wpAny_pure (wpAny_pure ⟨rfl, h₅⟩)) fun _ _ h' => h')) fun _ _ h' => h'))

end Mine
end

section
open PySem PySem.W PyProof.Rows PySem.Calls
namespace Mine

theorem wpAny_appendP {w : World} {A : Around} {s : Shared} {l : Addr} {vs : List Value} {n : Nat} {x : Value} {Q : Value → Shared → Prop} (ho : s.heap.get? l = some (listObj vs n)) (hsz : vs.length ≤ 1000000)
    (hQ : ∀ h' n', h'.get? l = some (listObj (vs ++ [x]) n') → Heap.SameBut l s.heap h' → Q .none { s with heap := h' }) :
    wpAny (model PG w) A (call (.builtin "list.append") [.ref l, x]) Q NoE s := by
  have hl : s.heap.IsList l vs.toArray := ⟨_, ho, rfl, n, rfl⟩
  refine wpAny_call_entry slot_list_append hl.typeIs entry_list_append ?_ (args_list_append _ _)
  show wpAny _ _ (updateSeq l (·.push x) >>= fun _ => ret .none) _ _ s
  refine wpAny_bind ?_
  refine wpAny_updateSeq ho rfl (wpAny_pure ⟨.none, rfl, ?_⟩)
  have e : (Obj.mapSeq (·.push x) (listObj vs n)) = listObj (vs ++ [x]) (if (vs.toArray.push x).size == vs.toArray.size then n else n + 1) := by
    show (⟨.type "list", none, .seq (vs.toArray.push x) _, #[]⟩ : Obj) = _
    simp [listObj]
  refine hQ _ (if (vs.toArray.push x).size == vs.toArray.size then n else n + 1) ?_ (Heap.SameBut.update ..)
  have := Heap.get?_update_self (h := s.heap) (a := l) (fun o => Obj.mapSeq (·.push x) o) ho rfl
  rw [← e]
  exact this

theorem tests_wp {c : Cx} {ifs : List Expr} {b : Bool} (t : Tests c ifs b) (ok : c.Ok) {s : Shared} (inv : c.Inv s) {Q : Bool → Shared → Prop} (h : ∀ s', c.Inv s' → Up s s' → Q b s') :
    wpAny (model PG c.w) c.A (forIn ifs true fun t r => if r = true then do let ok ← isTrue t c.env (eval t c.env); pure (ForInStep.yield ok) else pure (ForInStep.yield r)) Q NoE s := by
  rcases t with ⟨rfl, rfl⟩ | ⟨t, rfl, ht⟩
  · exact wpAny_tests_nil (h s inv (Up.refl s))
  · exact wpAny_tests_one (ht ok s Q inv h)

theorem comp_core {c : Cx} {elt target iter : Expr} {ifs : List Expr} {scope : Scope} {pos pz : Pos} {cl : List (Str × Addr)} {cap : List (Str × D)} {kc : Obj → Prop} {xs : List F} (p : F → Bool) (g : F → F)
    (hit : It c iter kc xs) (hkc : ∀ o, kc o → NotTab o) (hn : xs.length ≤ 1000) (hclos : closureFor scope c.env = pure cl) (hcell : ∀ y ∈ scope.names, y.2 ≠ .cell) (hkind : scope.kind = .function)
    (hnames : ∀ y ∈ scope.names, y.2 = .local → scope.names.lookup y.1 = some .local) (hcap : Caps c scope cl cap)
    (hb : ∀ x ∈ xs, ∃ bs, Tgt target x bs ∧ (∀ q ∈ bs, scope.names.lookup q.1 = some .local) ∧
      (∀ C B, Tests (subC c scope cl C B (dF bs ++ cap)) ifs (p x)) ∧ (p x = true → ∀ C B, Ev (subC c scope cl C B (dF bs ++ cap)) elt (.f (g x))))
    (hs : ∀ x, foldedSetIterable iter c.env x = pure x) (ok : c.Ok) {s : Shared} (inv : c.Inv s) {use : Option (Value → Sem Unit)} {Q : Value → Shared → Prop}
    (h : ∀ DA CA s' vs n m, s.heap.get? DA = none → s.heap.get? CA = none → DA ≠ CA → Up s s' → Wd c.K s' → 1 ≤ s'.toks → s'.heap.Ns CA m → s'.heap.get? DA = some (listObj vs n) → RepFs s'.heap vs ((xs.filter p).map g) →
      compPost (model PG c.w) c.A NoE use Q (.ref DA) CA (.ok .next) s') :
    wpAny (model PG c.w) c.A (comprehension (.ListComp elt [⟨target, iter, ifs, 0⟩] scope pos) scope c.env pz (newList []) false (eval iter c.env) use) Q NoE s := by
  refine wpAny_comprehension_free rfl hs hclos hkind hnames (hit ok s _ inv fun I own dep St s2 i2 u2 W st2 hown hdep hod => ?_)
  -- the list, the names
  refine wpAny_newObj_type (hd := by size_fits) (wpAny_newFunctionEnv hcell (by intro y hy; simp at hy) (fun h₁ hns₁ hsb₁ => ?_) hkind)
  dsimp only at hns₁ hsb₁ ⊢
  generalize hH2 : s2.heap.push { cls := .type "list", dict := none, data := .seq ([] : List Value).toArray } = H2 at hns₁ hsb₁ ⊢
  generalize hDD : s2.heap.objs.size = DA at *
  have hC : H2.objs.size = DA + 1 := by rw [← hH2, Heap.size_push, hDD]
  generalize hCC : H2.objs.size = CA at *
  have hDC : DA ≠ CA := by rw [hC]; exact Nat.ne_of_lt (Nat.lt_succ_self _)
  have freshD : s2.heap.get? DA = none := fresh_size (Nat.le_of_eq hDD)
  have freshC : s2.heap.get? CA = none := fresh_size (by rw [hDD, hC]; exact Nat.le_succ _)
  have freshD0 := u2.none freshD
  have freshC0 := u2.none freshC
  have old : ∀ b o, s2.heap.get? b = some o → h₁.get? b = some o := fun b o e =>
    hsb₁.extBut b o (by rintro rfl; rw [freshC] at e; cases e) (Heap.get?_push_of_some _ (hH2 ▸ Heap.get?_push_of_some _ e))
  have hacc : h₁.get? DA = some (listObj [] 0) := hsb₁.extBut _ _ hDC (Heap.get?_push_of_some _ (by
    have := Heap.get?_push_size s2.heap (o := ({ cls := .type "list", dict := none, data := .seq ([] : List Value).toArray } : Obj)) rfl
    rw [hDD] at this
    exact hH2 ▸ this))
  have ndD : ¬ dep DA := fun hd => by obtain ⟨o, ho⟩ := hdep _ hd; rw [freshD] at ho; cases ho
  have ndC : ¬ dep CA := fun hd => by obtain ⟨o, ho⟩ := hdep _ hd; rw [freshC] at ho; cases ho
  have noD : ¬ own DA := fun hd => ndD (hod _ hd)
  have noC : ¬ own CA := fun hd => ndC (hod _ hd)
  -- the loop
  let Iv : Nat → Shared → Prop := fun k s' => ∃ i vs n, Up s s' ∧ Wd c.K s' ∧ 1 ≤ s'.toks ∧ (∃ m, s'.heap.Ns CA m) ∧ s'.heap.get? DA = some (listObj vs n) ∧ RepFs s'.heap vs (((xs.take i).filter p).map g) ∧
    St i s'.heap ∧ i ≤ xs.length ∧ k = xs.length + 1 - i
  have henv : ({ (newEnv scope CA c.env.globals cl c.env.qual none .none (some c.env) builtinsNs) with scope := relabel scope c.env } : Env) = compEnvC scope cl CA c.env := rfl
  have loop : ∀ s3 : Shared, Iv (xs.length + 1) s3 → codeAny (model PG c.w) c.A (.compLoop (.ListComp elt [⟨target, iter, ifs, 0⟩] scope pos) 0 (.ref I) (.ref DA) (compEnvC scope cl CA c.env))
      (compPost (model PG c.w) c.A NoE use Q (.ref DA) CA) s3 := by
    intro s3 h3
    refine compLoop_own Iv ?_ _ h3
    rintro k s' ⟨i, vs, n, us, wd', pos', ⟨m, ns'⟩, hD', hR, hst', hi, rfl⟩
    -- a step that leaves what stood, and the list and the names
    cases hx : xs[i]? with
    | none =>
      have hin : i = xs.length := by
        have : xs.length ≤ i := by simpa using hx
        omega
      subst hin
      refine wpAny_with_toks pos' (toE (W.done c.A s' _ ok.handled hst' fun h'' tk hk kt pos2 => ?_))
      have st : ∀ b o, (∃ o', s.heap.get? b = some o') → s'.heap.get? b = some o → h''.get? b = some o := fun b o ⟨o', e'⟩ e => hk b o (fun hb => by rw [hown b hb] at e'; cases e') e
      have ns2 : h''.Ns CA m := ns'.at' fun o e => hk CA o noC e
      rw [List.take_length] at hR
      exact h DA CA _ vs n m freshD0 freshC0 hDC (us.step st) (inv.wd.step wd' st) pos2 ns2 (hk DA _ noD hD') (hR.keepT kt)
    | some x =>
      have hlt : i < xs.length := (List.getElem?_eq_some_iff.mp hx).1
      have hmem : x ∈ xs := List.mem_of_getElem? hx
      obtain ⟨bs, T, hbl, htests, helt⟩ := hb x hmem
      refine wpAny_with_toks pos' (toE (W.item c.A i s' x _ ok.handled hx hst' fun v h1 tk1 rv st1 hk1 kt1 pos1 => ?_))
      have step1 : ∀ b o, (∃ o', s.heap.get? b = some o') → s'.heap.get? b = some o → h1.get? b = some o := fun b o ⟨o', e'⟩ e => hk1 b o (fun hb => by rw [hown b hb] at e'; cases e') e
      have us1 : Up s { s' with heap := h1, toks := tk1 } := us.step step1
      have wd1 := inv.wd.step wd' step1 (tk := tk1)
      have hD1 : h1.get? DA = some (listObj vs n) := hk1 DA _ noD hD'
      have ns1 : h1.Ns CA m := ns'.at' fun o e => hk1 CA o noC e
      have hR1 := hR.keepT kt1
      refine wpAny_with_toks (s := { s' with heap := h1, toks := tk1 }) pos1 (toE (W.owned c.A (i + 1) { s' with heap := h1, toks := tk1 } v target _ ok.handled st1 fun h2 tk2 st2' hk2 kt2 pos2 => ?_))
      have step2 : ∀ b o, (∃ o', s.heap.get? b = some o') → h1.get? b = some o → h2.get? b = some o := fun b o ⟨o', e'⟩ e => hk2 b o (fun hb => by rw [hown b hb] at e'; cases e') e
      have us2 : Up s { s' with heap := h2, toks := tk2 } := us1.step step2
      have wd2 := inv.wd.step wd1 step2 (tk := tk2)
      have hD2 : h2.get? DA = some (listObj vs n) := hk2 DA _ noD hD1
      have ns2 : h2.Ns CA m := ns1.at' fun o e => hk2 CA o noC e
      have hR2 := hR1.keepT kt2
      have rv2 := rv.keepT kt2
      refine wpAny_with_toks (s := { s' with heap := h2, toks := tk2 }) pos2 (toE (wp_assign (env := compEnvC scope cl CA c.env) ok.handled hkind T (fun q hq => lookup_relabel_local (hbl q hq)) ns2 rv2 fun h3 tk3 m3 ns3 hm3 _ hk3 kd3 pos3 => ?_))
      have step3 : ∀ b o, (∃ o', s.heap.get? b = some o') → h2.get? b = some o → h3.get? b = some o := fun b o ⟨o', e'⟩ e => hk3 b o (fun hb => by
        have hb' : b = CA := hb
        rw [hb', freshC0] at e'; cases e') e
      have us3 : Up s { s' with heap := h3, toks := tk3 } := us2.step step3
      have wd3 := inv.wd.step wd2 step3 (tk := tk3)
      have hD3 : h3.get? DA = some (listObj vs n) := hk3 DA _ hDC hD2
      have hR3 := hR2.keepT kd3.keepT
      have st3 : St (i + 1) h3 := W.frame _ _ _ st2' (fun b o hb _ e => hk3 b o (fun e' => ndC (by have e'' : b = CA := e'; rw [← e'']; exact hb)) e) kd3.keepT
      -- the inner frame
      have ok3 : (subC c scope cl CA s (dF bs ++ cap)).Ok := ⟨ok.handled, ok.depth, ok.units, hkind, ok.glob, ok.blt, ok.gok, inv.wd, freshC0, .nil, fun _ h => nomatch h⟩
      have i3 : (subC c scope cl CA s (dF bs ++ cap)).Inv { s' with heap := h3, toks := tk3 } := by
        refine ⟨⟨wd3, us3, ⟨m3, ns3⟩, fun q hq => ?_, fun _ h => nomatch h⟩, pos3⟩
        rcases List.mem_append.mp hq with hq | hq
        · obtain ⟨q0, hq0, rfl⟩ := List.mem_map.mp hq
          obtain ⟨v0, e0, r0⟩ := hm3 q0 hq0
          exact ⟨v0, .inl ⟨lookup_relabel_local (hbl q0 hq0), m3, ns3, e0⟩, r0, trivial⟩
        · have caps := hcap.has (C := CA) (h := s.heap) inv.vars (fun v d r => r.notFresh freshC0) q hq
          exact caps.up us3
      refine tests_wp (htests CA s) ok3 i3 fun s4 i4 u4 => ?_
      have hD4 : s4.heap.get? DA = some (listObj vs n) := u4.get hD3 (.inl nofun)
      have hR4 := hR3.keepT u4.keepT
      have st4 : St (i + 1) s4.heap := W.frame _ _ _ st3 (fun b o hb nt e => u4.get e (hkc _ nt)) u4.keepT
      have us4 := us3.trans u4
      cases hp : p x with
      | false =>
        simp only [Bool.false_eq_true, if_false]
        refine ⟨xs.length + 1 - (i + 1), by omega, i + 1, vs, n, us4, i4.wd, i4.pos, let ⟨m, n⟩ := i4.ns; ⟨m, n⟩, hD4, ?_, st4, hlt, rfl⟩
        rw [take_succ_filter p _ i x hx, hp]; simpa using hR4
      | true =>
        simp only [if_true]
        refine helt hp CA s ok3 s4 _ i4 fun y s5 i5 u5 r5 _ => ?_
        have hD5 : s5.heap.get? DA = some (listObj vs n) := u5.get hD4 (.inl nofun)
        have hR5 := hR4.keepT u5.keepT
        have st5 : St (i + 1) s5.heap := W.frame _ _ _ st4 (fun b o hb nt e => u5.get e (hkc _ nt)) u5.keepT
        have us5 := us4.trans u5
        have hlen : vs.length ≤ 1000000 := by
          rw [hR.length, List.length_map]
          have e2 : ((xs.take i).filter p).length ≤ (xs.take i).length := List.length_filter_le _ _
          have e3 : (xs.take i).length ≤ xs.length := by rw [List.length_take]; omega
          omega
        refine wpAny_appendP hD5 hlen fun h6 n6 hD6 hs6 => ?_
        have kt6 : KeepT s5.heap h6 := fun b o e hc _ => by
          have : b ≠ DA := by rintro rfl; rw [hD5] at e; cases e; simp at hc
          exact hs6.extBut b o this e
        have step6 : ∀ b o, (∃ o', s.heap.get? b = some o') → s5.heap.get? b = some o → h6.get? b = some o := fun b o ⟨o', e'⟩ e => hs6.extBut b o (by rintro rfl; rw [freshD0] at e'; cases e') e
        obtain ⟨m5, ns5⟩ := i5.ns
        refine ⟨xs.length + 1 - (i + 1), by omega, i + 1, vs ++ [y], n6, us5.step step6, inv.wd.step i5.wd step6, i5.pos, ⟨m5, ns5.sameBut hs6 (Ne.symm hDC)⟩, hD6, ?_, ?_, hlt, rfl⟩
        · rw [take_succ_filter p _ i x hx, hp, if_pos rfl, List.map_append]
          exact (hR5.keepT kt6).snoc (RepF.keepT kt6 r5)
        · exact W.frame _ _ _ st5 (fun b o hb _ e => hs6.extBut b o (fun e' => ndD (e' ▸ hb)) e) kt6
  have start : ∀ s3 : Shared, s3 = { s2 with heap := h₁, toks := s2.toks + ([] : List (Str × Value)).length } → Iv (xs.length + 1) s3 := by
    rintro s3 rfl
    have u3 : Up s2 { s2 with heap := h₁, toks := s2.toks + ([] : List (Str × Value)).length } := Up.of old
    exact ⟨0, [], 0, u2.trans u3, i2.wd.keeps old, Nat.le_add_right_of_le i2.pos, ⟨_, hns₁⟩, hacc, .nil, W.frame _ _ _ st2 (fun b o _ _ e => old b o e) (.of old), Nat.zero_le _, rfl⟩
  exact codeAny_compStart_list (loop _ (start _ rfl)) (toE (W.self c.A 0 _ _ ok.handled (W.frame _ _ _ st2 (fun b o _ _ e => old b o e) (.of old)) (loop _ (start _ rfl))))


theorem Ev.comp {c : Cx} {elt target iter : Expr} {ifs : List Expr} {scope : Scope} {pos : Pos} {cl : List (Str × Addr)} {cap : List (Str × D)} {kc : Obj → Prop} {xs : List F} (p : F → Bool) (g : F → F)
    (hit : It c iter kc xs) (hkc : ∀ o, kc o → NotTab o) (hn : xs.length ≤ 1000) (hclos : closureFor scope c.env = pure cl) (hcell : ∀ y ∈ scope.names, y.2 ≠ .cell) (hkind : scope.kind = .function)
    (hnames : ∀ y ∈ scope.names, y.2 = .local → scope.names.lookup y.1 = some .local) (hcap : Caps c scope cl cap)
    (hb : ∀ x ∈ xs, ∃ bs, Tgt target x bs ∧ (∀ q ∈ bs, scope.names.lookup q.1 = some .local) ∧
      (∀ C B, Tests (subC c scope cl C B (dF bs ++ cap)) ifs (p x)) ∧ (p x = true → ∀ C B, Ev (subC c scope cl C B (dF bs ++ cap)) elt (.f (g x))))
    (hs : ∀ x, foldedSetIterable iter c.env x = pure x := by intro _; rfl) : Ev c (.ListComp elt [⟨target, iter, ifs, 0⟩] scope pos) (.list ((xs.filter p).map g)) :=
  Ev.mk fun ok s Q inv h => by
  rw [eval_ListComp]
  refine comp_core p g hit hkc hn hclos hcell hkind hnames hcap hb hs ok inv fun DA CA s' vs n m hD hC hDC us wd' pos' ns' hD' hR => ?_
  refine ⟨m, ns', fun h3 hs3 => ?_⟩
  have st3 : ∀ b o, (∃ o', s.heap.get? b = some o') → s'.heap.get? b = some o → h3.get? b = some o := fun b o ex e => hs3.extBut b o (by rintro rfl; obtain ⟨o', e'⟩ := ex; rw [hC] at e'; cases e') e
  have us3 : Up s { s' with heap := h3 } := us.step st3
  exact h _ _ ⟨inv.wd.step wd' st3, inv.up.trans us3, let ⟨m0, n0⟩ := inv.ns; ⟨m0, ns_up us3 n0⟩, fun q hq => (inv.vars q hq).up us3, fun q hq => let ⟨v, hc⟩ := inv.cel q hq; ⟨v, cell_up us3 hc⟩⟩ us3 ⟨DA, vs, n, rfl, hs3.extBut _ _ hDC hD', hR.keepT (KeepT.ns ns' hs3)⟩ trivial

end Mine
end

section
open PySem PySem.W PyProof.Rows PySem.Calls
namespace Mine

/-- what is no iterator stays -/
def KeepNI (h h' : Heap) : Prop := ∀ b o, h.get? b = some o → ¬ isIt o → h'.get? b = some o
theorem notIt_seq {o : Obj} {items : Array Value} {n : Nat} (h : o.data = .seq items n) : ¬ isIt o := fun ⟨_, _, _, hd⟩ => by rw [h] at hd; cases hd
theorem notIt_dict {o : Obj} {es : Array DictEntry} {n : Nat} (h : o.data = .dict es n) : ¬ isIt o := fun ⟨_, _, _, hd⟩ => by rw [h] at hd; cases hd
theorem notIt_cell {o : Obj} {v : Option Value} (h : o.data = .cell v) : ¬ isIt o := fun ⟨_, _, _, hd⟩ => by rw [h] at hd; cases hd
theorem KeepNI.keepT {h h' : Heap} (k : KeepNI h h') : KeepT h h' := fun b o e _ ⟨_, _, hd⟩ => k b o e (notIt_seq hd)
theorem Rep.keepNI {w : World} {h h' : Heap} (k : KeepNI h h') {v : Value} : ∀ {d : D}, Rep w h v d → Rep w h' v d
  | .f _, r => RepF.keepT k.keepT r
  | .list _, ⟨a, vs, n, e, ho, r⟩ => ⟨a, vs, n, e, k a _ ho (notIt_seq rfl), r.keepT k.keepT⟩
  | .mlist a _, ⟨e, vs, n, ho, r⟩ => ⟨e, vs, n, k a _ ho (notIt_seq rfl), r.keepT k.keepT⟩
  | .val _, r => r
  | .dict a _, ⟨e, hm, o, kvs', ho, hd, r⟩ => ⟨e, hm, o, kvs', k a _ ho (let ⟨es, ep, _, q, _⟩ := hd; notIt_dict q), hd, r⟩
  | .pile x dx _, ⟨e, vs, n, es, m, h1, h2, r1, r2, r3, r⟩ => ⟨e, vs, n, es, m, k x _ h1 (notIt_seq rfl), k dx _ h2 (notIt_dict rfl), r1, r2, r3, r.keepT k.keepT⟩
theorem ns_keepNI {h h' : Heap} (k : KeepNI h h') {a : Addr} {m : Str → Option Value} (n : h.Ns a m) : h'.Ns a m :=
  let ⟨o, es, ep, ho, hd, r⟩ := n; ⟨o, es, ep, k a o ho (notIt_dict hd), hd, r⟩
theorem cell_keepNI {h h' : Heap} (k : KeepNI h h') {a : Addr} {v : Option Value} (n : h.IsCell a v) : h'.IsCell a v :=
  let ⟨o, ho, hd⟩ := n; ⟨o, k a o ho (notIt_cell hd), hd⟩
theorem Bnd.keepNI {env : Env} {h h' : Heap} (k : KeepNI h h') {x : Str} {v : Value} : Bnd env h x v → Bnd env h' x v
  | .inl ⟨q, m, n, e⟩ => .inl ⟨q, m, ns_keepNI k n, e⟩
  | .inr ⟨q, kd, c, e, hc⟩ => .inr ⟨q, kd, c, e, cell_keepNI k hc⟩
theorem Has.keepNI {w : World} {env : Env} {h h' : Heap} (k : KeepNI h h') {x : Str} {d : D} : Has w env h x d → Has w env h' x d :=
  fun ⟨v, b, r, n⟩ => ⟨v, b.keepNI k, r.keepNI k, n⟩
theorem ns_same {h : Heap} {a : Addr} {m m' : Str → Option Value} (n : h.Ns a m) (n' : h.Ns a m') : m = m' := by
  obtain ⟨o, es, ep, ho, hd, _, f⟩ := n
  obtain ⟨o', es', ep', ho', hd', _, f'⟩ := n'
  rw [ho] at ho'; cases ho'
  rw [hd] at hd'; cases hd'
  exact funext fun y => (f y).symm.trans (f' y)

abbrev Cx.wv (c : Cx) (vs : List (Str × D)) : Cx := { c with vars := vs }
theorem Cx.Ok.wv {c : Cx} (ok : c.Ok) (vs : List (Str × D)) : (c.wv vs).Ok := ⟨ok.handled, ok.depth, ok.units, ok.kind, ok.glob, ok.blt, ok.gok, ok.wb, ok.new, ok.ownp, ok.ownB⟩

/-- variables after a store -/
def SetV (x : Str) (d : D) (vs vs' : List (Str × D)) : Prop := ∀ p ∈ vs', p = (x, d) ∨ (p ∈ vs ∧ p.1 ≠ x)
def Sub (vs' vs : List (Str × D)) : Prop := ∀ p ∈ vs', p ∈ vs

theorem Cx.Inv0.sub {c : Cx} {s : Shared} (i : c.Inv0 s) {vs : List (Str × D)} (h : Sub vs c.vars) : (c.wv vs).Inv0 s := ⟨i.wd, i.up, i.ns, fun p hp => i.vars p (h p hp), i.cel⟩
theorem Cx.Inv.sub {c : Cx} {s : Shared} (i : c.Inv s) {vs : List (Str × D)} (h : Sub vs c.vars) : (c.wv vs).Inv s := ⟨i.toInv0.sub h, i.pos⟩

theorem wp_store {c : Cx} (ok : c.Ok) {x : Str} {v : Value} {d : D} {s : Shared} {vs' : List (Str × D)} (i : c.Inv0 s) (hown : c.env.cells = c.own)
    (hk : c.env.scope.names.lookup x = some .local ∨ (c.env.scope.names.lookup x = some .cell ∧ (c.env.cells.lookup x).isSome = true ∧ (x == ("__classdict__" : Str)) = false))
    (hv' : SetV x d c.vars vs') (r : Rep c.w s.heap v d) (na : d.notAt c.env.locals) {Q : Unit → Shared → Prop}
    (h : ∀ s', (c.wv vs').Inv0 s' → Kp c.kl s.heap s'.heap → (∃ t, (t = c.env.locals ∨ ∃ y, (y, t) ∈ c.own) ∧ Heap.SameBut t s.heap s'.heap) → Q () s') : wpAny (model PG c.w) c.A (storeName c.env x v) Q NoE s := by
  have hp : (c.env.scope.kind == .class || (c.env.scope.kind == .module && c.env.locals != c.env.globals)) = false := by rw [ok.kind]; rfl
  obtain ⟨m, n⟩ := i.ns
  rcases hk with hk | ⟨hk, hs, hcd⟩
  · refine wpAny_storeName_local hk n (fun h' hn hs => h _ ?_ (Kp.ns n hs) ⟨_, .inl rfl, hs⟩) hp
    have st : ∀ b o, (∃ o', c.B.heap.get? b = some o') → s.heap.get? b = some o → h'.get? b = some o := fun b o ⟨o', e'⟩ e => hs.extBut b o (by rintro rfl; rw [ok.new] at e'; cases e') e
    have kd := KeepD.ns n hs
    refine ⟨ok.wb.step i.wd st, i.up.step st, ⟨_, hn⟩, fun p hp => ?_, fun p hp => ?_⟩
    · rcases hv' p hp with rfl | ⟨hm, hne⟩
      · exact ⟨v, .inl ⟨hk, _, hn, by simp⟩, r.keepD kd na, na⟩
      · obtain ⟨v1, b1, r1, n1⟩ := i.vars p hm
        refine ⟨v1, ?_, r1.keepD kd n1, n1⟩
        rcases b1 with ⟨q, m1, ns1, e1⟩ | ⟨q, kd1, c1, e1, hc1⟩
        · cases ns_same n ns1
          exact .inl ⟨q, _, hn, by rw [if_neg hne]; exact e1⟩
        · refine .inr ⟨q, kd1, c1, e1, hc1.sameBut hs ?_⟩
          rintro rfl
          obtain ⟨o, ho, hd⟩ := hc1
          obtain ⟨o', es, ep, ho', hd', _⟩ := n
          rw [ho] at ho'; cases ho'; rw [hd] at hd'; cases hd'
    · obtain ⟨v1, hc1⟩ := i.cel p hp
      refine ⟨v1, hc1.sameBut hs ?_⟩
      intro e
      obtain ⟨o, ho, hd⟩ := hc1
      obtain ⟨o', es, ep, ho', hd', _⟩ := n
      rw [e] at ho; rw [ho] at ho'; cases ho'; rw [hd] at hd'; cases hd'
  · obtain ⟨a, ha⟩ := Option.isSome_iff_exists.mp hs
    have hmem : (x, a) ∈ c.own := hown ▸ mem_of_lookup ha
    obtain ⟨v0, hc0⟩ := i.cel _ hmem
    have haL : c.env.locals ≠ a := by
      rintro e
      obtain ⟨o, ho, hd⟩ := hc0
      obtain ⟨o', es, ep, ho', hd', _⟩ := n
      rw [e] at ho'; rw [ho] at ho'; cases ho'; rw [hd] at hd'; cases hd'
    refine wpAny_storeName_cell ok.kind hk ha hc0 fun h' hc' hs => h _ ?_ (Kp.cell hc0 hs) ⟨_, .inr ⟨_, hmem⟩, hs⟩
    have st : ∀ b o, (∃ o', c.B.heap.get? b = some o') → s.heap.get? b = some o → h'.get? b = some o := fun b o ⟨o', e'⟩ e => hs.extBut b o (by rintro rfl; rw [ok.ownB _ hmem] at e'; cases e') e
    have kd : KeepD c.env.locals s.heap h' := KeepD.cell hc0 hs
    refine ⟨ok.wb.step i.wd st, i.up.step st, ⟨m, n.sameBut hs haL⟩, fun p hp => ?_, fun p hp => ?_⟩
    · rcases hv' p hp with rfl | ⟨hm, hne⟩
      · exact ⟨v, .inr ⟨.inl hk, hcd, a, ha, hc'⟩, r.keepD kd na, na⟩
      · obtain ⟨v1, b1, r1, n1⟩ := i.vars p hm
        refine ⟨v1, ?_, r1.keepD kd n1, n1⟩
        rcases b1 with ⟨q, m1, ns1, e1⟩ | ⟨q, kd1, c1, e1, hc1⟩
        · exact .inl ⟨q, m1, ns1.sameBut hs haL, e1⟩
        · exact .inr ⟨q, kd1, c1, e1, hc1.sameBut hs fun e => hne (name_of_addr ok.ownp (hown ▸ mem_of_lookup e1) (e ▸ hmem))⟩
    · obtain ⟨v1, hc1⟩ := i.cel p hp
      by_cases e : p.2 = a
      · rw [e]; exact ⟨_, hc'⟩
      · exact ⟨v1, hc1.sameBut hs e⟩

inductive Out where
  | next (vs : List (Str × D))
  | cont (vs : List (Str × D))
  | ret (d : D)

def PostO (c : Cx) (s : Shared) : Out → Flow → Shared → Prop
  | .next vs, f, s' => f = .next ∧ (c.wv vs).Inv s' ∧ Kp c.kl s.heap s'.heap
  | .cont vs, f, s' => f = .cont ∧ (c.wv vs).Inv s' ∧ Kp c.kl s.heap s'.heap
  | .ret d, f, s' => ∃ v, f = .ret v ∧ Rep c.w s'.heap v d ∧ (c.wv []).Inv s' ∧ Kp c.kl s.heap s'.heap
theorem PostO.from {c : Cx} {s s' : Shared} (k : Kp c.kl s.heap s'.heap) {vs : List (Str × D)} : ∀ {o : Out} {f : Flow} {s'' : Shared}, PostO (c.wv vs) s' o f s'' → PostO c s o f s''
  | .next _, _, _, ⟨a, b, d⟩ => ⟨a, b, k.trans d⟩
  | .cont _, _, _, ⟨a, b, d⟩ => ⟨a, b, k.trans d⟩
  | .ret _, _, _, ⟨v, a, r, b, d⟩ => ⟨v, a, r, b, k.trans d⟩

def SX (c : Cx) (sts : List Stmt) (o : Out) : Prop :=
  c.Ok → ∀ (s : Shared) (Q : Flow → Shared → Prop), c.Inv s → (∀ f s', PostO c s o f s' → Q f s') → wpAny (model PG c.w) c.A (execs sts c.env) Q NoE s
def S1 (c : Cx) (st : Stmt) (o : Out) : Prop :=
  c.Ok → ∀ (s : Shared) (Q : Flow → Shared → Prop), c.Inv s → (∀ f s', PostO c s o f s' → Q f s') → wpAny (model PG c.w) c.A (exec st c.env) Q NoE s
/-- a statement with something new -/
def S1E (c : Cx) (st : Stmt) (P : List (Str × D) → Prop) : Prop :=
  c.Ok → ∀ (s : Shared) (Q : Flow → Shared → Prop), c.Inv s → (∀ vs s', P vs → (c.wv vs).Inv s' → Kp c.kl s.heap s'.heap → Q .next s') → wpAny (model PG c.w) c.A (exec st c.env) Q NoE s

theorem SX.nil {c : Cx} : SX c [] (.next c.vars) := fun ok s Q inv h => wpAny_execs_nil (h _ _ ⟨rfl, inv, Kp.refl _⟩)
theorem SX.cons {c : Cx} {st : Stmt} {rest : List Stmt} {vs : List (Str × D)} {o : Out} (h1 : S1 c st (.next vs)) (h2 : SX (c.wv vs) rest o) : SX c (st :: rest) o := fun ok s Q inv h =>
  wpAny_execs_cons (h1 ok s _ inv fun f s1 ⟨e, i1, k1⟩ => by
    subst e
    exact h2 (ok.wv vs) s1 Q i1 fun f s' p => h f s' (p.from k1))
theorem SX.consE {c : Cx} {st : Stmt} {rest : List Stmt} {P : List (Str × D) → Prop} {o : Out} (h1 : S1E c st P) (h2 : ∀ vs, P vs → SX (c.wv vs) rest o) : SX c (st :: rest) o := fun ok s Q inv h =>
  wpAny_execs_cons (h1 ok s _ inv fun vs s1 hp i1 k1 => h2 vs hp (ok.wv vs) s1 Q i1 fun f s' p => h f s' (p.from k1))
theorem SX.ret {c : Cx} {st : Stmt} {rest : List Stmt} {d : D} (h1 : S1 c st (.ret d)) : SX c (st :: rest) (.ret d) := fun ok s Q inv h =>
  wpAny_execs_cons (h1 ok s _ inv fun f s1 p => by
    have p' := p
    obtain ⟨v, rfl, _⟩ := p
    exact h _ _ p')
theorem SX.cont {c : Cx} {st : Stmt} {rest : List Stmt} {vs : List (Str × D)} (h1 : S1 c st (.cont vs)) : SX c (st :: rest) (.cont vs) := fun ok s Q inv h =>
  wpAny_execs_cons (h1 ok s _ inv fun f s1 p => by
    have p' := p
    obtain ⟨rfl, _⟩ := p
    exact h _ _ p')
theorem SX.weak {c : Cx} {sts : List Stmt} {vs vs' : List (Str × D)} (h1 : SX c sts (.next vs)) (hs : Sub vs' vs) : SX c sts (.next vs') := fun ok s Q inv h =>
  h1 ok s Q inv fun f s' ⟨e, i, k⟩ => h f s' ⟨e, Cx.Inv.sub (c := c.wv vs) i hs, k⟩
theorem SX.from {c : Cx} {sts : List Stmt} {vs : List (Str × D)} {o : Out} (h1 : SX (c.wv vs) sts o) (hs : Sub vs c.vars) : SX c sts o := fun ok s Q inv h =>
  h1 (ok.wv vs) s Q (inv.sub hs) fun f s' p => h f s' (p.from (Kp.refl _))

theorem S1.of_mk {c : Cx} {st : Stmt} {vs : List (Str × D)} (H : c.Ok → ∀ (s : Shared) (Q : Flow → Shared → Prop), c.Inv s → (∀ s', (c.wv vs).Inv0 s' → Kp c.kl s.heap s'.heap → Q .next s') → wpAny (model PG c.w) c.A (exec st c.env) Q NoE s) :
    S1 c st (.next vs) := fun ok s Q inv h =>
  wpAny_with_toks inv.pos (toE (wpAny_mono (H ok s (fun f s' => 1 ≤ s'.toks → Q f s') inv fun s' i k p => h _ _ ⟨rfl, ⟨i, p⟩, k⟩) (fun _ _ x => x) fun _ _ x => x))
theorem S1E.of_mk {c : Cx} {st : Stmt} {P : List (Str × D) → Prop} (H : c.Ok → ∀ (s : Shared) (Q : Flow → Shared → Prop), c.Inv s → (∀ vs s', P vs → (c.wv vs).Inv0 s' → Kp c.kl s.heap s'.heap → Q .next s') → wpAny (model PG c.w) c.A (exec st c.env) Q NoE s) :
    S1E c st P := fun ok s Q inv h =>
  wpAny_with_toks inv.pos (toE (wpAny_mono (H ok s (fun f s' => 1 ≤ s'.toks → Q f s') inv fun vs s' hp i k p => h vs _ hp ⟨i, p⟩ k) (fun _ _ x => x) fun _ _ x => x))

def Loc (c : Cx) (x : Str) : Prop := c.env.scope.names.lookup x = some .local ∨ (c.env.scope.names.lookup x = some .cell ∧ (c.env.cells.lookup x).isSome = true ∧ (x == ("__classdict__" : Str)) = false)

theorem S1.assign {c : Cx} {x : Str} {p' pos : Pos} {e : Expr} {d : D} {vs' : List (Str × D)} (h1 : Ev c e d) (hown : c.env.cells = c.own) (hk : Loc c x) (hv' : SetV x d c.vars vs')
    (hs : swapsWith e (some (.Name x p')) pos.line c.env = pure false) : S1 c (.Assign [.Name x p'] e pos) (.next vs') := S1.of_mk fun ok s Q inv h =>
  wpAny_Assign_Name (h1 ok s _ inv fun v s1 i1 u1 r1 n1 => wp_store ok i1.toInv0 hown hk hv' r1 n1 fun s2 i2 k2 _ => h s2 i2 ((u1.kp _).trans k2)) hs
theorem S1.aug {c : Cx} {x : Str} {p' pos : Pos} {e : Expr} {a b : List Nat} {vs' : List (Str × D)} (hx : c.vars.lookup x = some (.f (.str a))) (h1 : Ev c e (.f (.str b))) (hown : c.env.cells = c.own) (hk : Loc c x) (hv' : SetV x (.f (.str (a ++ b))) c.vars vs')
    (hs : a.length + b.length ≤ 16777216) : S1 c (.AugAssign (.Name x p') .Add e pos) (.next vs') := S1.of_mk fun ok s Q inv h => by
  obtain ⟨v, bd, r, n⟩ := inv.vars _ (lookup_mem hx)
  refine wpAny_AugAssign_Name (wp_name ok bd (h1 ok s _ inv fun v1 s1 i1 u1 r1 n1 => ?_))
  have r' := Rep.up (d := .f (.str a)) (w := c.w) u1 r
  cases r'
  cases r1
  refine PyProof.Rows.iadd_str (fun t' tk => ?_) (by rw [sizeLine_eq]; simpa [Str.length] using hs)
  rw [str_append]
  exact wp_store ok (i1.toInv0.tok ok tk) hown hk hv' (.str _ _) trivial fun s2 i2 k2 _ => h s2 i2 ((u1.kp _).trans k2)
theorem S1.expr {c : Cx} {e : Expr} {pos : Pos} {d : D} (h1 : Ev c e d) (hi : interactive c.env = false) (hs : swapsWith e none pos.line c.env = pure false) : S1 c (.Expr e pos) (.next c.vars) := fun ok s Q inv h =>
  wpAny_Expr_any (h1 ok s _ inv fun v s1 i1 u1 r1 n1 => h _ _ ⟨rfl, i1, u1.kp _⟩) hi hs
theorem S1.ret {c : Cx} {e : Expr} {pos : Pos} {d : D} (h1 : Ev c e d) : S1 c (.Return (some e) pos) (.ret d) := fun ok s Q inv h =>
  wpAny_Return_some (h1 ok s _ inv fun v s1 i1 u1 r1 n1 => h _ _ ⟨v, rfl, r1, i1.sub (fun _ hp => nomatch hp), u1.kp _⟩)
theorem S1.continue {c : Cx} {pos : Pos} : S1 c (.Continue pos) (.cont c.vars) := fun ok s Q inv h =>
  wpAny_Continue (h _ _ ⟨rfl, inv, Kp.refl _⟩)
theorem S1.ite {c : Cx} {t : Expr} {body orelse : List Stmt} {pos : Pos} {b : Bool} {o : Out} (h1 : Ts c t b) (h2 : SX c (if b = true then body else orelse) o) : S1 c (.If t body orelse pos) o := fun ok s Q inv h =>
  wpAny_If (h1 ok s _ inv fun s1 i1 u1 => by
    have := h2 ok s1 Q i1 fun f s' p => h f s' (PostO.from (vs := c.vars) (u1.kp _) p)
    cases b <;> exact this)
theorem S1.try {c : Cx} {body : List Stmt} {h₀ : ExceptHandler} {hs : List ExceptHandler} {pos : Pos} {d : D} (h1 : SX c body (.ret d)) : S1 c (.Try body (h₀ :: hs) [] [] pos) (.ret d) := fun ok s Q inv h =>
  wpAny_Try_except (toE (h1 ok s _ inv fun f s' p => by
    have p' := p
    obtain ⟨v, rfl, _⟩ := p
    exact h _ _ p'))

/-- a comprehension stored on its own line -/
theorem S1.assignComp {c : Cx} {x : Str} {p' spos : Pos} {elt target iter : Expr} {ifs : List Expr} {scope : Scope} {pos : Pos} {cl : List (Str × Addr)} {cap : List (Str × D)} {kc : Obj → Prop} {xs : List F} {vs' : List (Str × D)} (p : F → Bool) (g : F → F)
    (hit : It c iter kc xs) (hkc : ∀ o, kc o → NotTab o) (hn : xs.length ≤ 1000) (hclos : closureFor scope c.env = pure cl) (hcell : ∀ y ∈ scope.names, y.2 ≠ .cell) (hkind : scope.kind = .function)
    (hnames : ∀ y ∈ scope.names, y.2 = .local → scope.names.lookup y.1 = some .local) (hcap : Caps c scope cl cap)
    (hb : ∀ x ∈ xs, ∃ bs, Tgt target x bs ∧ (∀ q ∈ bs, scope.names.lookup q.1 = some .local) ∧
      (∀ C B, Tests (subC c scope cl C B (dF bs ++ cap)) ifs (p x)) ∧ (p x = true → ∀ C B, Ev (subC c scope cl C B (dF bs ++ cap)) elt (.f (g x))))
    (hown : c.env.cells = c.own) (hk : Loc c x) (hv' : SetV x (.list ((xs.filter p).map g)) c.vars vs')
    (hsw : swapsWith (.ListComp elt [⟨target, iter, ifs, 0⟩] scope pos) (some (.Name x p')) spos.line c.env = pure true)
    (hs : ∀ x, foldedSetIterable iter c.env x = pure x) : S1 c (.Assign [.Name x p'] (.ListComp elt [⟨target, iter, ifs, 0⟩] scope pos) spos) (.next vs') := S1.of_mk fun ok s Q inv h => by
  rw [exec_Assign_Name_used _ _ _ _ hsw]
  refine wpAny_bind (wpAny_standAt (wpAny_bind ?_))
  show wpAny _ c.A (do let _ ← comprehension (.ListComp elt [⟨target, iter, ifs, 0⟩] scope pos) scope c.env _ (newList []) false (eval iter c.env) (some (PySem.assign (.Name x p') c.env))) _ _ s
  refine wpAny_bind (wpAny_mono (comp_core (use := some (PySem.assign (.Name x p') c.env)) (Q := fun _ s' => Q .next s') p g hit hkc hn hclos hcell hkind hnames hcap hb hs ok inv ?_) (fun _ s' hq => wpAny_pure (wpAny_pure hq)) fun _ _ e => e)
  intro DA CA s' vs n m hD hC hDC us wd' pos' ns' hD' hR
  have i' : c.Inv0 s' := ⟨wd', inv.up.trans us, let ⟨m0, n0⟩ := inv.ns; ⟨m0, ns_up us n0⟩, fun q hq => (inv.vars q hq).up us, fun q hq => let ⟨v, hc⟩ := inv.cel q hq; ⟨v, cell_up us hc⟩⟩
  have rD : Rep c.w s'.heap (.ref DA) (.list ((xs.filter p).map g)) := ⟨DA, vs, n, rfl, hD', hR⟩
  have hLC : c.env.locals ≠ CA := by
    obtain ⟨m0, o, es, ep, ho, _⟩ := inv.ns
    rintro e; rw [e] at ho; rw [hC] at ho; cases ho
  have cellNe : ∀ {h : Heap} {a : Addr} {v : Option Value} {m : Str → Option Value}, h.Ns CA m → h.IsCell a v → a ≠ CA := by
    rintro h a v m ⟨o, es, ep, ho, hd, _⟩ ⟨o', ho', hd'⟩ rfl
    rw [ho] at ho'; cases ho'; rw [hd] at hd'; cases hd'
  have step : ∀ (s2 : Shared), (c.wv vs').Inv0 s2 → ∀ m2, s2.heap.Ns CA m2 → ∀ h3, Heap.SameBut CA s2.heap h3 → (c.wv vs').Inv0 { s2 with heap := h3 } := by
    intro s2 i2 m2 n2 h3 hs3
    have st3 : ∀ b o, (∃ o', c.B.heap.get? b = some o') → s2.heap.get? b = some o → h3.get? b = some o := fun b o ⟨o', e'⟩ e => hs3.extBut b o (by
      rintro rfl
      obtain ⟨o2, e2⟩ := inv.up.there _ _ e'
      rw [hC] at e2; cases e2) e
    have kd3 : KeepD CA s2.heap h3 := KeepD.ns n2 hs3
    refine ⟨ok.wb.step i2.wd st3, i2.up.step st3, let ⟨m0, n0⟩ := i2.ns; ⟨m0, n0.sameBut hs3 hLC⟩, fun q hq => ?_, fun q hq => let ⟨v, hc⟩ := i2.cel q hq; ⟨v, hc.sameBut hs3 (cellNe n2 hc)⟩⟩
    obtain ⟨v1, b1, r1, n1⟩ := i2.vars q hq
    have na : q.2.notAt CA := by
      rcases hv' q hq with rfl | ⟨hm, _⟩
      · trivial
      · obtain ⟨v0, _, r0, _⟩ := inv.vars q hm
        exact r0.notFresh hC
    refine ⟨v1, ?_, r1.keepD kd3 na, n1⟩
    rcases b1 with ⟨q1, m1, ns1, e1⟩ | ⟨q1, kd1, c1, e1, hc1⟩
    · exact .inl ⟨q1, m1, ns1.sameBut hs3 hLC, e1⟩
    · exact .inr ⟨q1, kd1, c1, e1, hc1.sameBut hs3 (cellNe n2 hc1)⟩
  show wpAny _ c.A (PySem.assign (.Name x p') c.env (.ref DA)) _ _ s'
  refine wpAny_assign_Name (wp_store ok i' hown hk hv' rD trivial fun s2 i2 k2 ⟨t, ht, hs⟩ => ?_)
  have n2 : s2.heap.Ns CA m := ns'.sameBut hs fun e => by
    rcases ht with rfl | ⟨y, hy⟩
    · exact hLC e.symm
    · obtain ⟨v0, o, ho, _⟩ := inv.cel _ hy
      rw [← e] at ho; rw [hC] at ho; cases ho
  exact ⟨m, n2, fun h3 hs3 => h _ (step s2 i2 m n2 h3 hs3) (((us.kp _).trans k2).trans (Kp.ns n2 hs3))⟩

end Mine
end

section
open PySem PySem.W PyProof.Rows PySem.Calls
namespace Mine

theorem forLoop_own {w : World} {A : Around} {R : Result → Shared → Prop} {s : Shared} {target it : Expr} {itv : Value} {body : List Stmt} {env : Env} (I : Nat → Shared → Prop)
    (turn : ∀ n s, I n s → wpAny (model PG w) A (pyNext itv) (fun r s₁ => match r with
      | none => R (.ok .next) s₁
      | some v => wpAny (model PG w) A (letOwnedTupleGo target itv v) (fun _ s₁' => wpAny (model PG w) A (assign target env v) (fun _ s₂ => wpAny (model PG w) A (execs body env) (fun f s₃ => match f with
          | .next | .cont => ∃ m, m < n ∧ I m s₃
          | .brk => R (.ok .next) s₃
          | .ret v => R (.ok (.ret v)) s₃) NoE s₂) NoE s₁') NoE s₁) NoE s)
    (n : Nat) (h : I n s) : codeAny (model PG w) A (.forLoop target itv body [] env) R s := by
  refine codeAny_loop' rfl I (fun n s hI => ?_) n h
  show wpAny _ _ ((forTurn target itv body [] env).onRaise (fun x => do noteFrame x env; theTreesLotGoes x)) _ _ s
  refine wpAny_noted (toE ?_)
  simp only [forTurn]
  refine wpAny_bind (wpAny_standAt (wpAny_bind (wpAny_onRaise (wpAny_mono (turn n s hI) (fun r s₁ h₁ => ?_) fun _ _ h' => wpAny_standAt h'))))
  cases r with
  | none => exact wpAny_pure (.inr ⟨rfl, codeAny_block (wpAny_execs_nil h₁)⟩)
  | some v =>
    refine wpAny_bind (wpAny_mono h₁ (fun _ s₁' h₁' => ?_) fun _ _ h' => h')
    refine wpAny_bind (wpAny_mono h₁' (fun _ s₂ h₂ => wpAny_bind (wpAny_mono h₂ (fun f s₃ h₃ => ?_) fun _ _ h' => h')) fun _ _ h' => h')
    cases f with
    | next => exact wpAny_pure (.inl ⟨rfl, h₃⟩)
    | cont => exact wpAny_pure (.inl ⟨rfl, h₃⟩)
    | brk => exact wpAny_pure h₃
    | ret v => exact wpAny_pure h₃

theorem kept.notDict {kl : Bool} {o : Obj} {es : Array DictEntry} {n : Nat} (k : kept kl o) (hd : o.data = .dict es n) : False := by
  rcases k with ⟨_, _, _, h⟩ | ⟨_, _, _, h⟩ | ⟨_, _, _, _, h⟩ <;> rw [hd] at h <;> cases h

/-- a loop over data -/
theorem S1.for {c : Cx} {target iter : Expr} {body : List Stmt} {pos : Pos} {kc : Obj → Prop} {xs : List F} (V : Nat → List (Str × D))
    (hit : It c iter kc xs) (hkc : ∀ o, kc o → kept c.kl o) (h0 : Sub (V 0) c.vars)
    (hb : ∀ i x, xs[i]? = some x → ∃ bs, Tgt target x bs ∧ (∀ q ∈ bs, c.env.scope.names.lookup q.1 = some .local) ∧ (∀ p ∈ V i, bs.lookup p.1 = none) ∧
      ∃ vs, (SX (c.wv (dF bs ++ V i)) body (.next vs) ∨ SX (c.wv (dF bs ++ V i)) body (.cont vs)) ∧ Sub (V (i + 1)) vs)
    (hs : ∀ x, foldedSetIterable iter c.env x = pure x) : S1 c (.For target iter body [] pos) (.next (V xs.length)) := fun ok s Q inv h => by
  refine wpAny_For ?_ hs
  refine toE (wpAny_mono (hit ok s _ inv fun I own dep St s1 i1 u1 W st1 hown hdep hod => ?_) (fun x s₁ h₁ => toE h₁) fun _ _ x => x)
  let Iv : Nat → Shared → Prop := fun k s' => ∃ i, (c.wv (V i)).Inv s' ∧ Kp c.kl s.heap s'.heap ∧ St i s'.heap ∧ i ≤ xs.length ∧ k = xs.length + 1 - i
  refine forLoop_own (it := iter) Iv ?_ (xs.length + 1) ⟨0, i1.sub h0, u1.kp _, st1, Nat.zero_le _, rfl⟩
  rintro k s' ⟨i, i', k', st', hi, rfl⟩
  have hA := ok.handled
  -- a step of the iterator
  have stepNI : ∀ {i : Nat} {h1 h2 : Heap}, St i h1 → (∀ b o, ¬ own b → h1.get? b = some o → h2.get? b = some o) → KeepNI h1 h2 := fun {i h1 h2} st hk b o e hn => hk b o (fun hb => by
    obtain ⟨o', ho', hi'⟩ := W.ownIt _ _ _ st hb
    rw [e] at ho'; cases ho'; exact hn hi') e
  have notOwn : ∀ b o, s.heap.get? b = some o → ¬ own b := fun b o e hb => by rw [hown b hb] at e; cases e
  have stepI : ∀ {i : Nat} {vs : List (Str × D)} {t : Shared} {h2 : Heap} {tk : Nat}, (c.wv vs).Inv t → St i t.heap → (∀ b o, ¬ own b → t.heap.get? b = some o → h2.get? b = some o) → (c.wv vs).Inv0 { t with heap := h2, toks := tk } := fun {i vs t h2 tk} it st hk => by
    have ni := stepNI st hk
    have sp : ∀ b o, (∃ o', c.B.heap.get? b = some o') → t.heap.get? b = some o → h2.get? b = some o := fun b o ⟨o', e'⟩ e => hk b o (by
      obtain ⟨o2, e2⟩ := inv.up.there _ _ e'
      exact notOwn _ _ e2) e
    exact ⟨ok.wb.step it.wd sp, it.up.step sp, let ⟨m, n⟩ := it.ns; ⟨m, ns_keepNI ni n⟩, fun p hp => (it.vars p hp).keepNI ni, fun p hp => let ⟨v, hc⟩ := it.cel p hp; ⟨v, cell_keepNI ni hc⟩⟩
  have stepK : ∀ {t : Shared} {h2 : Heap}, Kp c.kl s.heap t.heap → (∀ b o, ¬ own b → t.heap.get? b = some o → h2.get? b = some o) → Kp c.kl s.heap h2 := fun k hk b o e ke => hk b o (notOwn b o e) (k b o e ke)
  cases hx : xs[i]? with
  | none =>
    have hin : i = xs.length := by
      have : xs.length ≤ i := by simpa using hx
      omega
    subst hin
    refine wpAny_with_toks i'.pos (toE (W.done c.A s' _ hA st' fun h'' tk hk kt pos2 => ?_))
    exact h _ _ ⟨rfl, ⟨stepI i' st' hk, pos2⟩, stepK k' hk⟩
  | some x =>
    have hlt : i < xs.length := (List.getElem?_eq_some_iff.mp hx).1
    obtain ⟨bs, T, hbl, hV, vs, hbody, hsub⟩ := hb i x hx
    refine wpAny_with_toks i'.pos (toE (W.item c.A i s' x _ hA hx st' fun v h1 tk1 rv st1 hk1 kt1 pos1 => ?_))
    have i1' : (c.wv (V i)).Inv { s' with heap := h1, toks := tk1 } := ⟨stepI i' st' hk1, pos1⟩
    have k1' := stepK k' hk1
    refine wpAny_with_toks (s := { s' with heap := h1, toks := tk1 }) pos1 (toE (W.owned c.A (i + 1) { s' with heap := h1, toks := tk1 } v target _ hA st1 fun h2 tk2 st2 hk2 kt2 pos2 => ?_))
    have i2' : (c.wv (V i)).Inv { s' with heap := h2, toks := tk2 } := ⟨stepI (t := { s' with heap := h1, toks := tk1 }) i1' st1 hk2, pos2⟩
    have k2' := stepK (t := { s' with heap := h1, toks := tk1 }) k1' hk2
    obtain ⟨m2, n2⟩ := i2'.ns
    refine wpAny_with_toks (s := { s' with heap := h2, toks := tk2 }) pos2 (toE (wp_assign (env := c.env) hA ok.kind T (fun q hq => hbl q hq) n2 (rv.keepT kt2) fun h3 tk3 m3 n3 hm3 hrest hk3 kd3 pos3 => ?_))
    have nb : ∀ b o, kept c.kl o → h2.get? b = some o → b ≠ c.env.locals := by
      rintro b o ke e rfl
      obtain ⟨o', es, ep, ho', hd', _⟩ := n2
      have : h2.get? c.env.locals = some o' := ho'
      rw [e] at this; cases this
      exact ke.notDict hd'
    have k3 : Kp c.kl h2 h3 := fun b o e ke => hk3 b o (nb b o ke e) e
    have st3 : St (i + 1) h3 := W.frame _ _ _ st2 (fun b o _ hc e => k3 b o e (hkc o hc)) kd3.keepT
    have sp3 : ∀ b o, (∃ o', c.B.heap.get? b = some o') → h2.get? b = some o → h3.get? b = some o := fun b o ⟨o', e'⟩ e => hk3 b o (by rintro rfl; rw [ok.new] at e'; cases e') e
    have i3 : (c.wv (dF bs ++ V i)).Inv { s' with heap := h3, toks := tk3 } := by
      refine ⟨⟨ok.wb.step i2'.wd sp3, i2'.up.step sp3, ⟨m3, n3⟩, fun p hp => ?_, fun p hp => ?_⟩, pos3⟩
      · rcases List.mem_append.mp hp with hp | hp
        · obtain ⟨q0, hq0, rfl⟩ := List.mem_map.mp hp
          obtain ⟨v0, e0, r0⟩ := hm3 q0 hq0
          exact ⟨v0, .inl ⟨hbl q0 hq0, m3, n3, e0⟩, r0, trivial⟩
        · obtain ⟨v0, b0, r0, na0⟩ := i2'.vars p hp
          refine ⟨v0, ?_, r0.keepD kd3 na0, na0⟩
          rcases b0 with ⟨q, m1, ns1, e1⟩ | ⟨q, kd1, c1, e1, hc1⟩
          · cases ns_same n2 ns1
            exact .inl ⟨q, m3, n3, by rw [hrest p.1 (hV p hp)]; exact e1⟩
          · obtain ⟨o1, ho1, hd1⟩ := hc1
            refine .inr ⟨q, kd1, c1, e1, o1, hk3 _ _ ?_ ho1, hd1⟩
            rintro rfl
            obtain ⟨o', es, ep, ho', hd', _⟩ := n2
            rw [ho1] at ho'; cases ho'; rw [hd1] at hd'; cases hd'
      · obtain ⟨v1, o1, ho1, hd1⟩ := i2'.cel p hp
        refine ⟨v1, o1, hk3 _ _ ?_ ho1, hd1⟩
        intro e
        obtain ⟨o', es, ep, ho', hd', _⟩ := n2
        have e' : p.2 = c.env.locals := e
        have ho2 : h2.get? p.2 = some o1 := ho1
        rw [e'] at ho2
        have ho3 : h2.get? c.env.locals = some o' := ho'
        rw [ho2] at ho3; cases ho3; rw [hd1] at hd'; cases hd'
    have fin : ∀ s4 : Shared, (c.wv vs).Inv s4 → Kp c.kl h3 s4.heap → ∃ m, m < xs.length + 1 - i ∧ Iv m s4 := fun s4 i4 k4 =>
      ⟨xs.length + 1 - (i + 1), by omega, i + 1, Cx.Inv.sub (c := c.wv vs) i4 hsub, (Kp.trans k2' k3).trans k4, W.frame _ _ _ st3 (fun b o _ hc e => k4 b o e (hkc o hc)) (fun b o e hc hd => k4 b o e (.inr (.inl ⟨hc, hd⟩))), hlt, rfl⟩
    rcases hbody with hbody | hbody
    · exact hbody (ok.wv _) _ _ i3 fun f s4 ⟨e, i4, k4⟩ => by subst e; exact fin s4 i4 k4
    · exact hbody (ok.wv _) _ _ i3 fun f s4 ⟨e, i4, k4⟩ => by subst e; exact fin s4 i4 k4

end Mine
end

section
open PySem PySem.W PyProof.Rows PySem.Calls
namespace Mine

theorem Cx.Inv.up0 {c : Cx} {s s' : Shared} (i : c.Inv s) (wd : Wd c.K s') (u : Up s s') : c.Inv0 s' :=
  ⟨wd, i.up.trans u, let ⟨m, n⟩ := i.ns; ⟨m, ns_up u n⟩, fun q hq => (i.vars q hq).up u, fun q hq => let ⟨v, hc⟩ := i.cel q hq; ⟨v, cell_up u hc⟩⟩

abbrev fnCx (w : World) (K : Frag) (k : Nat) (A : Around) (fd : FuncData) (a L : Addr) (B : Shared) (kl : Bool) (vars : List (Str × D)) : Cx :=
  { k := k, w := w, A := A.deeper (callEnvC fd L a), env := callEnvC fd L a, K := K, B := B, own := cellsFrom (L + 1) fd.scope.names [], kl := kl, vars := vars }

inductive BindsTo (w : World) (h : Heap) : List (Str × Value) → List (Str × D) → Prop
  | nil : BindsTo w h [] []
  | cons {x : Str} {v : Value} {d : D} {bs : List (Str × Value)} {ds : List (Str × D)} : Rep w h v d → BindsTo w h bs ds → BindsTo w h ((x, v) :: bs) ((x, d) :: ds)
theorem BindsTo.mem {w : World} {h : Heap} : ∀ {bs : List (Str × Value)} {ds : List (Str × D)}, BindsTo w h bs ds → ∀ p ∈ ds, ∃ v, (p.1, v) ∈ bs ∧ Rep w h v p.2
  | _, _, .nil, p, hp => nomatch hp
  | _, _, .cons r b, p, hp => by
    rcases List.mem_cons.mp hp with rfl | hp
    · exact ⟨_, .head _, r⟩
    · obtain ⟨v, hv, r'⟩ := b.mem p hp
      exact ⟨v, .tail _ hv, r'⟩

theorem bindL_not {kf : Str → Option NameKind} : ∀ {bs : List (Str × Value)} {m : Str → Option Value} {x : Str}, x ∉ bs.map (·.1) → bindL kf bs m x = m x
  | [], _, _, _ => rfl
  | (n, v) :: r, m, x, h => by
    rw [List.map_cons, List.mem_cons, not_or] at h
    show bindL kf r _ x = _
    rw [bindL_not h.2]
    split
    · exact if_neg h.1
    · rfl
theorem bindL_mem {kf : Str → Option NameKind} : ∀ {bs : List (Str × Value)} {m : Str → Option Value} {x : Str} {v : Value}, (bs.map (·.1)).Nodup → (x, v) ∈ bs → kf x = some .local → bindL kf bs m x = some v
  | (n, u) :: r, m, x, v, hn, hm, hk => by
    rw [List.map_cons, List.nodup_cons] at hn
    show bindL kf r _ x = _
    rcases List.mem_cons.mp hm with e | hm
    · cases e
      rw [bindL_not hn.1, if_pos hk, if_pos rfl]
    · exact bindL_mem hn.2 hm hk
theorem bindC_not {kf : Str → Option NameKind} : ∀ {bs : List (Str × Value)} {m : Str → Option Value} {x : Str}, x ∉ bs.map (·.1) → bindC kf bs m x = m x
  | [], _, _, _ => rfl
  | (n, v) :: r, m, x, h => by
    rw [List.map_cons, List.mem_cons, not_or] at h
    show bindC kf r _ x = _
    rw [bindC_not h.2]
    split
    · rfl
    · exact if_neg h.1
theorem bindC_mem {kf : Str → Option NameKind} : ∀ {bs : List (Str × Value)} {m : Str → Option Value} {x : Str} {v : Value}, (bs.map (·.1)).Nodup → (x, v) ∈ bs → kf x ≠ some .local → bindC kf bs m x = some v
  | (n, u) :: r, m, x, v, hn, hm, hk => by
    rw [List.map_cons, List.nodup_cons] at hn
    show bindC kf r _ x = _
    rcases List.mem_cons.mp hm with e | hm
    · cases e
      rw [bindC_not hn.1, if_neg hk, if_pos rfl]
    · exact bindC_mem hn.2 hm hk

/-- a plain function of the program -/
structure FnOk (K : Frag) (a : Addr) (fd : FuncData) (body : List Stmt) : Prop where
  nt : a ∉ tabs
  at' : ∃ cl dd sl, K.lookup a = some ⟨cl, dd, .func fd, sl⟩
  code : ∃ c o vs t, fd.code = .ref c ∧ c ∉ tabs ∧ K.lookup c = some o ∧ o.data = .fields vs ∧ vs[1]? = some (.str fd.qualname t)
  body : fd.body = .stmts body
  clo : fd.closure = []
  glob : fd.globals = mainGlobals
  blt : fd.builtins = builtinsNs
  co : fd.scope.isCoroutine = false
  gen : fd.scope.isGenerator = false
  kind : fd.scope.kind = .function
  nd : ((cellsFrom 0 fd.scope.names []).map (·.1)).Nodup
theorem FnOk.cal {K : Frag} {a : Addr} {fd : FuncData} {body : List Stmt} (f : FnOk K a fd body) : Cal K (.ref a) :=
  let ⟨cl, dd, sl, h⟩ := f.at'; .inr (.inr ⟨a, cl, dd, fd, sl, rfl, f.nt, h⟩)

/-- what a call of a function answers -/
def FnSpec (w : World) (K : Frag) (k : Nat) (fd : FuncData) (a : Addr) (body : List Stmt) (kl : Bool) (ds : List (Str × D)) (d : D) : Prop :=
  ∀ A L B, SX (fnCx w K k A fd a L B kl ds) body (.ret d)

theorem call_fn {c : Cx} (ok : c.Ok) {k : Nat} (hk : c.k = k + 1) {a : Addr} {fd : FuncData} {body : List Stmt} (f : FnOk c.K a fd body) {kl : Bool} {ds : List (Str × D)} {d : D} (S : FnSpec c.w c.K k fd a body kl ds d)
    {vals : List Value} {binds : List (Str × Value)} (hbind : bindArgs fd ⟨vals, []⟩ = pure binds) {s : Shared} (inv : c.Inv s) (hb : BindsTo c.w s.heap binds ds) (hnb : (binds.map (·.1)).Nodup)
    (hkind : ∀ x ∈ binds, fd.scope.names.lookup x.1 = some .local ∨ (fd.scope.names.lookup x.1 = some .cell ∧ (x.1 == ("__classdict__" : Str)) = false ∧ ((cellsFrom (s.heap.objs.size + 1) fd.scope.names []).lookup x.1).isSome = true))
    (hna : d.notAt c.env.locals) {Q : Value → Shared → Prop} (h : ∀ v s', c.Inv0 s' → Up s s' → Rep c.w s'.heap v d → d.notAt c.env.locals → Q v s') : wpAny (model PG c.w) c.A (call (.ref a) vals) Q NoE s := by
  obtain ⟨cl, dd, sl, hK⟩ := f.at'
  obtain ⟨cd, oc, vs, t, hcd, hct, hKc, hdc, hq⟩ := f.code
  refine wpAny_call (codeAny_call_function (o := _) (by have := ok.depth; show c.A.depth < 1000; omega) (inv.wd.st _ _ hK f.nt) rfl f.co f.gen f.body ⟨cd, oc, vs, t, hcd, inv.wd.st _ _ hKc hct, hdc, hq⟩ ?_)
  rw [hbind, f.clo]
  refine wpAny_pure (wpAny_with_toks inv.pos (wpAny_newFunctionEnv_cells f.kind (fun x hx => (hkind x hx).elim .inl fun y => .inr ⟨y.1, y.2.2⟩) fun env he s' X pos => ?_))
  subst he
  refine ⟨(inv.wd.noLimit ok.gok).keeps X.toInCall.keep, codeAny_func ?_⟩
  have hfresh : s.heap.get? s.heap.objs.size = none := fresh_size (Nat.le_refl _)
  have okf : (fnCx c.w c.K k c.A fd a s.heap.objs.size s kl ds).Ok := by
    have d1 := ok.depth
    have d2 := ok.units
    refine ⟨ok.handled, ?_, ?_, f.kind, f.glob, f.blt, ok.gok, inv.wd, hfresh, X.apart, fun p hp => fresh_size (Nat.le_of_lt (X.above p.1 p.2 hp))⟩
    · show c.A.depth + 1 + 10 * k ≤ 990; omega
    · show c.A.units + 3 + 100 * k ≤ 9800; omega
  have upS : Up s s' := by
    obtain ⟨h', tk, e, hk'⟩ := X.done
    rw [e]; exact Up.of hk'
  have wdS : Wd c.K s' := by
    obtain ⟨h', tk, e, hk'⟩ := X.done
    rw [e]; exact inv.wd.keeps hk'
  have invf : (fnCx c.w c.K k c.A fd a s.heap.objs.size s kl ds).Inv s' := by
    refine ⟨⟨wdS, upS, ⟨_, X.toInCall.ns⟩, fun p hp => ?_, fun p hp => ?_⟩, pos⟩
    · obtain ⟨v, hv, r⟩ := hb.mem p hp
      refine ⟨v, ?_, r.up upS, r.notFresh hfresh⟩
      rcases hkind _ hv with hl | ⟨hl, hcd', hs⟩
      · exact .inl ⟨hl, _, X.toInCall.ns, bindL_mem hnb hv hl⟩
      · obtain ⟨ac, hac⟩ := Option.isSome_iff_exists.mp hs
        refine .inr ⟨.inl hl, hcd', ac, hac, ?_⟩
        have := X.cell _ _ hac
        rwa [bindC_mem hnb hv (fun e => by
          have e' : fd.scope.names.lookup p.1 = some .local := e
          rw [hl] at e'; cases e')] at this
    · have hnd : ((cellsFrom (s.heap.objs.size + 1) fd.scope.names []).map (·.1)).Nodup := cellsFrom_names fd.scope.names 0 (s.heap.objs.size + 1) [] [] rfl ▸ f.nd
      exact ⟨_, X.cell p.1 p.2 (lookup_of_mem_nodup hnd hp)⟩
  have main := S c.A s.heap.objs.size s okf s' (fun fl s'' => Q (match fl with | .ret v => v | _ => .none) s'') invf fun fl s'' ⟨v, e, r, i, _⟩ => by
    subst e
    exact h v s'' (inv.up0 i.wd i.up) i.up r hna
  exact wpAny_mono main (fun _ _ x => x) fun _ _ x => x.elim

theorem CallR1.fn {c : Cx} {k : Nat} (hk : c.k = k + 1) {a : Addr} {fd : FuncData} {body : List Stmt} (f : FnOk c.K a fd body) {kl : Bool} {x1 : Str} {d1 d : D} (S : FnSpec c.w c.K k fd a body kl [(x1, d1)] d)
    (hbind : ∀ v1, bindArgs fd ⟨[v1], []⟩ = pure [(x1, v1)]) (hkind : ∀ n, ∀ x ∈ [x1], fd.scope.names.lookup x = some .local ∨ (fd.scope.names.lookup x = some .cell ∧ (x == ("__classdict__" : Str)) = false ∧ ((cellsFrom (n + 1) fd.scope.names []).lookup x).isSome = true))
    (hna : ∀ L, d.notAt L) : CallR1 c (.ref a) d1 d := fun ok s v Q inv r h =>
  call_fn ok hk f S (hbind v) inv (.cons r .nil) (by simp) (fun x hx => by simp at hx; subst hx; exact hkind _ _ (by simp)) (hna _) h
theorem CallR2.fn {c : Cx} {k : Nat} (hk : c.k = k + 1) {a : Addr} {fd : FuncData} {body : List Stmt} (f : FnOk c.K a fd body) {kl : Bool} {x1 x2 : Str} {d1 d2 d : D} (S : FnSpec c.w c.K k fd a body kl [(x1, d1), (x2, d2)] d)
    (hbind : ∀ v1 v2, bindArgs fd ⟨[v1, v2], []⟩ = pure [(x1, v1), (x2, v2)]) (hkind : ∀ n, ∀ x ∈ [x1, x2], fd.scope.names.lookup x = some .local ∨ (fd.scope.names.lookup x = some .cell ∧ (x == ("__classdict__" : Str)) = false ∧ ((cellsFrom (n + 1) fd.scope.names []).lookup x).isSome = true))
    (hne : x1 ≠ x2) (hna : ∀ L, d.notAt L) : CallR2 c (.ref a) d1 d2 d := fun ok s v1 v2 Q inv r1 r2 h =>
  call_fn ok hk f S (hbind v1 v2) inv (.cons r1 (.cons r2 .nil)) (by simp [hne]) (fun x hx => by simp at hx; rcases hx with rfl | rfl <;> exact hkind _ _ (by simp)) (hna _) h
theorem CallR3.fn {c : Cx} {k : Nat} (hk : c.k = k + 1) {a : Addr} {fd : FuncData} {body : List Stmt} (f : FnOk c.K a fd body) {kl : Bool} {x1 x2 x3 : Str} {d1 d2 d3 d : D} (S : FnSpec c.w c.K k fd a body kl [(x1, d1), (x2, d2), (x3, d3)] d)
    (hbind : ∀ v1 v2 v3, bindArgs fd ⟨[v1, v2, v3], []⟩ = pure [(x1, v1), (x2, v2), (x3, v3)]) (hkind : ∀ n, ∀ x ∈ [x1, x2, x3], fd.scope.names.lookup x = some .local ∨ (fd.scope.names.lookup x = some .cell ∧ (x == ("__classdict__" : Str)) = false ∧ ((cellsFrom (n + 1) fd.scope.names []).lookup x).isSome = true))
    (h12 : x1 ≠ x2) (h13 : x1 ≠ x3) (h23 : x2 ≠ x3) (hna : ∀ L, d.notAt L) : CallR3 c (.ref a) d1 d2 d3 d := fun ok s v1 v2 v3 Q inv r1 r2 r3 h =>
  call_fn ok hk f S (hbind v1 v2 v3) inv (.cons r1 (.cons r2 (.cons r3 .nil))) (by simp [h12, h13, h23]) (fun x hx => by simp at hx; rcases hx with rfl | rfl | rfl <;> exact hkind _ _ (by simp)) (hna _) h

/-- a list that grows -/
def D.noL : D → Bool
  | .list _ => false
  | .mlist _ _ => false
  | _ => true
theorem Ev.mlist {c : Cx} {e : Expr} {l : Addr} {xs : List F} (h1 : Ev c e (.mlist l xs)) : Ev c e (.list xs) := fun ok s Q inv h =>
  h1 ok s Q inv fun v s' i u r n => h v s' i u (let ⟨e, vs, k, ho, q⟩ := r; ⟨l, vs, k, e, ho, q⟩) trivial
theorem S1.append {c : Cx} {x name : Str} {xp apos cpos pos : Pos} {e : Expr} {l : Addr} {xs : List F} {y : F} {vs' : List (Str × D)} (hx : Ev c (.Name x xp) (.mlist l xs)) (h1 : Ev c e (.f y)) (hname : Slot "list" name "list.append")
    (hfresh : c.B.heap.get? l = none) (hkl : c.kl = false) (hlen : xs.length ≤ 1000000) (hv' : ∀ p ∈ vs', p = (x, .mlist l (xs ++ [y])) ∨ (p ∈ c.vars ∧ p.2.noL = true)) (hx' : c.vars.lookup x = some (.mlist l xs))
    (he : ∀ env, starEach [e] env = [(false, eval e env)]) (hline : (apos.endLine == cpos.line) = true)
    (hi : interactive c.env = false) (hs : swapsWith (.Call (.Attribute (.Name x xp) name apos) [e] [] cpos) none pos.line c.env = pure false) :
    S1 c (.Expr (.Call (.Attribute (.Name x xp) name apos) [e] [] cpos) pos) (.next vs') := S1.of_mk fun ok s Q inv h => by
  refine wpAny_Expr_any (wpAny_Call_method_lateS rfl (by rw [he]; rfl) hline (hx ok s _ inv fun v0 s0 i0 u0 r0 _ => ?_)) hi hs
  obtain ⟨rfl, vs, n, ho, q⟩ := r0
  refine ⟨"list", "list.append", PySem.F.plainAttrs_list, hname, rfl, ⟨_, ho, rfl⟩, (fun a e => by cases e; exact ⟨_, ho, rfl⟩), ?_⟩
  refine wp_callWith (first := [.ref l]) (.inl ⟨_, rfl⟩) (by rw [he]; rfl) (fun P hp => by rw [he] at hp ⊢; exact evalArgs_plain hp) (args1 h1 he ok i0 fun v s1 i1 u1 r1 => ⟨i1.wd, ?_⟩)
  have ho1 := u1.get ho (.inl nofun)
  have q1 := q.keepT u1.keepT
  refine wpAny_appendP ho1 (by rw [q.length]; exact hlen) fun h' n' hl' hs' => ?_
  have st : ∀ b o, (∃ o', c.B.heap.get? b = some o') → s1.heap.get? b = some o → h'.get? b = some o := fun b o ⟨o', e'⟩ e => hs'.extBut b o (by rintro rfl; rw [hfresh] at e'; cases e') e
  have kt : KeepT s1.heap h' := fun b o e hc _ => hs'.extBut b o (by rintro rfl; rw [ho1] at e; cases e; simp at hc) e
  have nd : ∀ {b : Addr} {o : Obj}, s1.heap.get? b = some o → (∀ vs n, o ≠ listObj vs n) → h'.get? b = some o := fun e hne => hs'.extBut _ _ (by rintro rfl; rw [ho1] at e; cases e; exact hne _ _ rfl) e
  have keepNs : ∀ {a : Addr} {m : Str → Option Value}, s1.heap.Ns a m → h'.Ns a m := fun ⟨o, es, ep, ho, hd, r⟩ => ⟨o, es, ep, nd ho (fun _ _ e => by rw [e] at hd; cases hd), hd, r⟩
  have keepC : ∀ {a : Addr} {m : Option Value}, s1.heap.IsCell a m → h'.IsCell a m := fun ⟨o, ho, hd⟩ => ⟨o, nd ho (fun _ _ e => by rw [e] at hd; cases hd), hd⟩
  have keepB : ∀ {x : Str} {v : Value}, Bnd c.env s1.heap x v → Bnd c.env h' x v
    | _, _, .inl ⟨k, m, n, e⟩ => .inl ⟨k, m, keepNs n, e⟩
    | _, _, .inr ⟨k, kd, a, e, hc⟩ => .inr ⟨k, kd, a, e, keepC hc⟩
  refine h _ ⟨ok.wb.step i1.wd st, i1.up.step st, let ⟨m, n⟩ := i1.ns; ⟨m, keepNs n⟩, fun p hp => ?_, fun p hp => let ⟨v, hc⟩ := i1.cel p hp; ⟨v, keepC hc⟩⟩ (Kp.trans ((u0.trans u1).kp _) ?_)
  · rcases hv' p hp with rfl | ⟨hm, hd⟩
    · obtain ⟨v0, b0, r0, _⟩ := i1.vars _ (lookup_mem hx')
      obtain ⟨rfl, _⟩ := r0
      exact ⟨_, keepB b0, ⟨rfl, _, _, hl', (q1.keepT kt).snoc (RepF.keepT kt r1)⟩, trivial⟩
    · obtain ⟨v0, b0, r0, n0⟩ := i1.vars p hm
      refine ⟨v0, keepB b0, ?_, n0⟩
      obtain ⟨px, pd⟩ := p
      cases pd with
      | f z => exact RepF.keepT kt r0
      | val u => exact r0
      | list z => cases hd
      | mlist b z => cases hd
      | dict a kvs => obtain ⟨e, hm, o, kvs', ho', hd', r⟩ := r0; exact ⟨e, hm, o, kvs', nd ho' (fun _ _ e => by obtain ⟨es, ep, _, q, _⟩ := hd'; rw [e] at q; cases q), hd', r⟩
      | pile px dx z => obtain ⟨e, vs, k, es, m, h1, h2, r1, r2, r3, r⟩ := r0; exact ⟨e, vs, k, es, m, nd h1 (fun _ _ e => by injection e with e1; cases e1), nd h2 (fun _ _ e => by injection e with e1 e2 e3; cases e3), r1, r2, r3, r.keepT kt⟩
  · intro b o e ke
    refine hs'.extBut b o ?_ e
    rintro rfl
    rw [ho1] at e; cases e
    rcases ke with ⟨_, _, _, hd⟩ | ⟨hc, _⟩ | ⟨hk, _⟩
    · cases hd
    · simp at hc
    · rw [hkl] at hk; cases hk

end Mine
end

section
open PySem PySem.W PyProof.Rows PySem.Calls
namespace Mine

def repl (c : Nat) (z : List Nat) (l : List Nat) : List Nat := l.flatMap fun k => if k = c then z else [k]
theorem repl_free (c : Nat) (z : List Nat) : ∀ l : List Nat, c ∉ l → repl c z l = l
  | [], _ => rfl
  | k :: r, h => by
    have h1 : ¬ k = c := fun e => h (e ▸ List.mem_cons_self ..)
    have ih := repl_free c z r fun m => h (List.mem_cons_of_mem _ m)
    unfold repl at ih ⊢
    rw [List.flatMap_cons, if_neg h1, ih]; rfl
theorem repl_append (c : Nat) (z a b : List Nat) : repl c z (a ++ b) = repl c z a ++ repl c z b := by simp [repl]
theorem repl_length (c : Nat) (z : List Nat) : ∀ l : List Nat, (repl c z l).length ≤ l.length * (z.length + 1)
  | [] => Nat.zero_le _
  | k :: r => by
    have ih := repl_length c z r
    have e : repl c z (k :: r) = (if k = c then z else [k]) ++ repl c z r := by simp [repl]
    rw [e, List.length_append, List.length_cons, Nat.succ_mul]
    have : (if k = c then z else [k]).length ≤ z.length + 1 := by split <;> simp
    omega
theorem repl_join (c : Nat) (z : List Nat) : ∀ parts : List Str, (∀ p ∈ parts, c ∉ p.cps.toList) → repl c z (Str.join ⟨#[c]⟩ parts).cps.toList = (Str.join ⟨z.toArray⟩ parts).cps.toList
  | [], _ => rfl
  | [p], h => repl_free c z _ (h p (List.mem_singleton.mpr rfl))
  | p :: q :: r, h => by
    have ih := repl_join c z (q :: r) fun a ha => h a (List.mem_cons_of_mem _ ha)
    show repl c z (p ++ ⟨#[c]⟩ ++ Str.join ⟨#[c]⟩ (q :: r)).cps.toList = (p ++ ⟨z.toArray⟩ ++ Str.join ⟨z.toArray⟩ (q :: r)).cps.toList
    simp only [Str.cps_append, Array.toList_append]
    rw [repl_append, repl_append, ih, repl_free c z _ (h p (List.mem_cons_self ..))]
    show p.cps.toList ++ repl c z [c] ++ _ = _
    simp [repl]
theorem replace_repl (x z : List Nat) (c : Nat) : Txt.replace ⟨x.toArray⟩ ⟨#[c]⟩ ⟨z.toArray⟩ = ⟨(repl c z x).toArray⟩ := by
  have h : (Txt.replace ⟨x.toArray⟩ ⟨#[c]⟩ ⟨z.toArray⟩).cps.toList = repl c z x := by
    rw [StrLaws.replace_one, ← repl_join c z _ (StrLaws.split_free _ c), StrLaws.join_split]
  generalize Txt.replace ⟨x.toArray⟩ ⟨#[c]⟩ ⟨z.toArray⟩ = r at h
  obtain ⟨⟨l⟩⟩ := r
  have e : l = repl c z x := h
  rw [e]

/-- o.replace('c', 'z') -/
theorem Ev.replace {c : Cx} {o : Expr} {k1 k2 : Nat} {p1 p2 apos pos : Pos} {y z : Str} {ch : Nat} {x zl : List Nat} (ho : Ev c o (.f (.str x))) (hy : y = ⟨#[ch]⟩) (hz : z = ⟨zl.toArray⟩) (hyz : (y == z) = false)
    (hs : x.length + (x.length + 1) * zl.length ≤ 16777216) (hbase : attributeBase o "replace" c.env (eval o c.env) = eval o c.env) (hline : (apos.endLine == pos.line) = true) :
    Ev c (.Call (.Attribute o "replace" apos) [.Constant (.str y) k1 p1, .Constant (.str z) k2 p2] [] pos) (.f (.str (repl ch zl x))) :=
  Ev.mk fun ok s Q inv h => wpAny_Call_method_lateS hbase rfl hline (ho ok s _ inv fun v0 s0 i0 u0 r0 _ => by
    refine ⟨"str", "str.replace", PySem.F.plainAttrs_str, PySem.F.slot_str_replace, rfl, by cases r0; exact typeIs_str _ _ _, (by cases r0; exact fun _ e => nomatch e), ?_⟩
    refine wp_callWith (first := [v0]) (.inl ⟨_, rfl⟩) rfl (fun P hp => evalArgs_plain hp) ?_
    refine wpAny_items_cons (wpAny_Constant_str (wpAny_items_cons (wpAny_Constant_str (wpAny_items_nil ?_)) rfl)) rfl
    have i1 := i0.toInv0.tok ok (s0.toks + 1 + 1)
    refine ⟨i1.wd, ?_⟩
    have hp := i0.pos
    cases r0
    rename_i t
    subst hy hz
    refine PySem.SC.replace (show s0.toks ≠ 0 by omega) (show s0.toks + 1 ≠ 0 by omega) (show s0.toks ≠ s0.toks + 1 by omega) hyz (by simpa [Str.length] using hs) fun t' k => ?_
    rw [replace_repl]
    exact h _ _ (i1.tok ok k) (u0.trans Up.tok) (.str _ _) trivial)

/-- one step of an escape -/
theorem SetV.one {x : Str} {d d' : D} : SetV x d [(x, d')] [(x, d)] := fun p hp => .inl (by simpa using hp)
theorem S1.esc {c : Cx} {x : Str} {y y' z : Str} {k0 k1 k2 : Nat} {p0 p1 p2 p3 p4 p5 pi apos pos spos cpos : Pos} (ch : Nat) {t : List Nat} (zl : List Nat) (hvs : c.vars = [(x, .f (.str t))]) (hy : y = ⟨#[ch]⟩) (hy' : y' = ⟨#[ch]⟩) (hz : z = ⟨zl.toArray⟩) (hyz : (y' == z) = false)
    (hs : t.length + (t.length + 1) * zl.length ≤ 16777216) (hd : (x == ("__debug__" : Str)) = false) (hline : (apos.endLine == pos.line) = true) (hown : c.env.cells = c.own) (hk : Loc c x) :
    S1 c (.If (.Compare (.Constant (.str y) k0 p0) [.In] [.Name x p3] cpos) [.Assign [.Name x p4] (.Call (.Attribute (.Name x p5) "replace" apos) [.Constant (.str y') k1 p1, .Constant (.str z) k2 p2] [] pos) spos] [] pi) (.next [(x, .f (.str (repl ch zl t)))]) := by
  have hx : c.vars.lookup x = some (.f (.str t)) := by rw [hvs]; simp
  have hb : Ts c (.Compare (.Constant (.str y) k0 p0) [.In] [.Name x p3] cpos) (decide (ch ∈ t)) := Ts.cmp (Ev.cstr (l := [ch]) (by rw [hy])) (Ev.name hx hd) CmpR.inS1 rfl
  refine S1.ite hb ?_
  by_cases hm : ch ∈ t
  · rw [if_pos (by simpa using hm)]
    exact SX.cons (S1.assign (Ev.replace (Ev.name hx hd) hy' hz hyz hs rfl hline) hown hk (hvs ▸ SetV.one) rfl) SX.nil
  · rw [if_neg (by simpa using hm), repl_free _ _ _ hm]
    exact SX.weak SX.nil (hvs ▸ fun p hp => hp)

/-- the code of the program -/
def nthS : List Stmt → Nat → Stmt
  | [], _ => .Pass ⟨0, 0, 0, 0⟩
  | x :: _, 0 => x
  | _ :: r, n + 1 => nthS r n
def bodyS : Stmt → List Stmt
  | .FunctionDef (body := b) .. => b
  | .ClassDef (body := b) .. => b
  | _ => []
def scopeS : Stmt → Scope
  | .FunctionDef (scope := s) .. => s
  | .ClassDef (scope := s) .. => s
  | _ => default
def argsS : Stmt → Arguments
  | .FunctionDef (args := a) .. => a
  | _ => default
def isFn (n : Str) : Stmt → Bool
  | .FunctionDef (name := m) .. => m == n
  | .ClassDef (name := m) .. => m == n
  | _ => false

abbrev fdOf (st : Stmt) (name : Str) (pm cd doc : Value) : FuncData := docDef name (argsS st) (bodyS st) (scopeS st) pm cd doc
abbrev stAt (n : Nat) : Stmt := nthS PG.main.body n

def ampS : List Nat := [38, 97, 109, 112, 59]
def ltS : List Nat := [38, 108, 116, 59]
def gtS : List Nat := [38, 103, 116, 59]
def quotS : List Nat := [38, 113, 117, 111, 116, 59]
def escC (t : List Nat) : List Nat := repl 62 gtS (repl 60 ltS (repl 38 ampS t))
def escH (t : List Nat) : List Nat := repl 34 quotS (repl 62 gtS (repl 38 ampS t))

theorem repl_bound {c : Nat} {z l : List Nat} {n : Nat} (h : l.length ≤ n) (hz : z.length ≤ 6) : (repl c z l).length ≤ 7 * n := by
  have := repl_length c z l
  have h1 : l.length * (z.length + 1) ≤ n * 7 := Nat.mul_le_mul h (by omega)
  omega

section
variable {w : World} {K : Frag} {k : Nat} {a : Addr} {kl : Bool} {pm cd doc : Value} {t : List Nat}
theorem esc_cdata (hb : t.length ≤ 10000) : FnSpec w K k (fdOf (stAt 12) "_escape_cdata" pm cd doc) a (bodyS (stAt 12)) kl [("text", .f (.str t))] (.f (.str (escC t))) := fun A L B => by
  have h1 : (repl 38 ampS t).length ≤ 70000 := repl_bound hb (by decide)
  have h2 : (repl 60 ltS (repl 38 ampS t)).length ≤ 490000 := repl_bound h1 (by decide)
  refine SX.ret (S1.try ?_)
  refine SX.cons (S1.esc 38 ampS rfl rfl rfl rfl rfl (by simp [ampS]; omega) rfl rfl rfl (.inl rfl)) ?_
  refine SX.cons (S1.esc 60 ltS rfl rfl rfl rfl rfl (by simp [ltS]; omega) rfl rfl rfl (.inl rfl)) ?_
  refine SX.cons (S1.esc 62 gtS rfl rfl rfl rfl rfl (by simp [gtS]; omega) rfl rfl rfl (.inl rfl)) ?_
  exact SX.ret (S1.ret (Ev.name rfl rfl))
theorem esc_html (hb : t.length ≤ 10000) : FnSpec w K k (fdOf (stAt 13) "_escape_attrib_html" pm cd doc) a (bodyS (stAt 13)) kl [("text", .f (.str t))] (.f (.str (escH t))) := fun A L B => by
  have h1 : (repl 38 ampS t).length ≤ 70000 := repl_bound hb (by decide)
  have h2 : (repl 62 gtS (repl 38 ampS t)).length ≤ 490000 := repl_bound h1 (by decide)
  refine SX.ret (S1.try ?_)
  refine SX.cons (S1.esc 38 ampS rfl rfl rfl rfl rfl (by simp [ampS]; omega) rfl rfl rfl (.inl rfl)) ?_
  refine SX.cons (S1.esc 62 gtS rfl rfl rfl rfl rfl (by simp [gtS]; omega) rfl rfl rfl (.inl rfl)) ?_
  refine SX.cons (S1.esc 34 quotS rfl rfl rfl rfl rfl (by simp [quotS]; omega) rfl rfl rfl (.inl rfl)) ?_
  exact SX.ret (S1.ret (Ev.name rfl rfl))
end
end Mine
end

section
open PySem PySem.W PyProof.Rows PySem.Calls
namespace Mine

/-- an expression that gives something new -/
def EvE (c : Cx) (e : Expr) (P : D → Prop) : Prop :=
  c.Ok → ∀ (s : Shared) (Q : Value → Shared → Prop), c.Inv s → (∀ d v s', P d → c.Inv0 s' → Up s s' → Rep c.w s'.heap v d → d.notAt c.env.locals → Q v s') → wpAny (model PG c.w) c.A (eval e c.env) Q NoE s
theorem EvE.ite {c : Cx} {t a b : Expr} {pos : Pos} {q : Bool} {P : D → Prop} (h1 : Ts c t q) (h2 : EvE c (if q = true then a else b) P) : EvE c (.IfExp t a b pos) P := fun ok s Q inv h =>
  wpAny_IfExp (h1 ok s _ inv fun s1 i1 u1 => by
    have := h2 ok s1 Q i1 fun d v s' hp i u r n => h d v s' hp i (u1.trans u) r n
    cases q <;> exact this)
theorem S1E.assign {c : Cx} {x : Str} {p' pos : Pos} {e : Expr} {P : D → Prop} {P' : List (Str × D) → Prop} (h1 : EvE c e P) (hown : c.env.cells = c.own) (hk : Loc c x) (hv' : ∀ d, P d → ∃ vs', P' vs' ∧ SetV x d c.vars vs')
    (hs : swapsWith e (some (.Name x p')) pos.line c.env = pure false) : S1E c (.Assign [.Name x p'] e pos) P' := S1E.of_mk fun ok s Q inv h =>
  wpAny_Assign_Name (h1 ok s _ inv fun d v s1 hp i1 u1 r1 n1 => by
    obtain ⟨vs', hP', hv⟩ := hv' d hp
    exact wp_store ok i1 hown hk hv r1 n1 fun s2 i2 k2 _ => h vs' s2 hP' i2 ((u1.kp _).trans k2)) hs

theorem flat_kv : ∀ {kvs' : List (Str × Value)} {kvs : List (List Nat × List Nat)}, PyProof.V.FlatPairs PyData.str kvs' (kvs.map fun p => (PyData.str ⟨p.1.toArray⟩, PyData.str ⟨p.2.toArray⟩)) → kvs'.map strKV = kvs.map fun p => (p.1, some p.2)
  | [], [], _ => rfl
  | [], _ :: _, h => by cases h
  | _ :: _, [], h => by cases h
  | (k, v) :: r, (x, y) :: kvs, h => by
    generalize hD : ((x, y) :: kvs).map (fun p => (PyData.str ⟨p.1.toArray⟩, PyData.str ⟨p.2.toArray⟩)) = DD at h
    cases h with
    | cons f g =>
      rename_i d D
      simp only [List.map_cons, List.cons.injEq, Prod.mk.injEq] at hD
      obtain ⟨⟨e1, e2⟩, e3⟩ := hD
      cases e1
      subst e2
      obtain ⟨t, rfl⟩ := f.str_inv
      rw [List.map_cons, List.map_cons, flat_kv (e3 ▸ g)]
      rfl
theorem EvE.dict {c : Cx} {keys : List (Option Expr)} {values : List Expr} {pos : Pos} (kvs : List (List Nat × List Nat)) (hD : litPairs keys values = some (kvs.map fun p => (PyData.str ⟨p.1.toArray⟩, PyData.str ⟨p.2.toArray⟩)))
    (hs : strKeyed (kvs.map fun p => (PyData.str ⟨p.1.toArray⟩, PyData.str ⟨p.2.toArray⟩)) = true) (hn : (strKeysOf (kvs.map fun p => (PyData.str ⟨p.1.toArray⟩, PyData.str ⟨p.2.toArray⟩))).Nodup)
    (hall : keys.all (·.isSome) = true) (hl : keys.length = values.length) (h0 : keys ≠ []) (hlen : keys.length ≤ 15) : EvE c (.Dict keys values pos) (fun d => ∃ a, d = .dict a kvs) := fun ok s Q inv h =>
  Dict_lits_str hD hs hn hall hl h0 hlen fun a o h₁ tk ha ho T hk => by
    obtain ⟨kvs', hd, hf⟩ := T
    have hfresh : s.heap.get? a = none := fresh_size ha
    refine h (.dict a kvs) _ _ ⟨a, rfl⟩ (inv.toInv0.keeps ok hk) (Up.of hk) ⟨rfl, ?_, o, kvs', ho, hd, flat_kv hf⟩ ?_
    · exact beq_eq_false_iff_ne.mpr (Nat.ne_of_gt (Nat.lt_of_lt_of_le (modules_low (inv.wd.noLimit ok.gok)) ha))
    · rintro rfl
      obtain ⟨m, o', es, ep, ho', _⟩ := inv.ns
      rw [hfresh] at ho'; cases ho'
theorem val_find : ∀ {kvs' : List (Str × Value)} {kvs : List (List Nat × List Nat)} (x : List Nat), kvs'.map strKV = kvs.map (fun p => (p.1, some p.2)) →
    match kvs.lookup x with
    | some y => ∃ t, valueAt kvs' ⟨x.toArray⟩ = some (.str ⟨y.toArray⟩ t)
    | none => valueAt kvs' ⟨x.toArray⟩ = none
  | [], [], x, _ => rfl
  | [], _ :: _, _, h => by simp at h
  | _ :: _, [], _, h => by simp at h
  | (k, v) :: r, (z, y) :: kvs, x, h => by
    rw [List.map_cons, List.map_cons, List.cons.injEq] at h
    have ih := val_find x h.2
    obtain ⟨h1, h2⟩ := Prod.mk.inj h.1
    obtain ⟨⟨k⟩⟩ := k
    have hk : k = z := h1
    subst hk
    rw [List.lookup_cons]
    by_cases e : x = k
    · subst e
      simp only [beq_self_eq_true]
      unfold valueAt
      simp only [List.find?_cons]
      simp only [decide_true, Option.map_some]
      cases v with
      | str u t =>
        obtain ⟨⟨u⟩⟩ := u
        have hu : u = y := by simpa [strKV] using h2
        subst hu
        exact ⟨t, rfl⟩
      | _ => simp at h2
    · have hb : (x == k) = false := by simpa using e
      have hne : ¬ ((⟨⟨k⟩⟩ : Str) = ⟨x.toArray⟩) := fun q => by injection q with q1; injection q1 with q2; exact e q2.symm
      simp only [hb]
      have ev : valueAt ((⟨⟨k⟩⟩, v) :: r) ⟨x.toArray⟩ = valueAt r ⟨x.toArray⟩ := by
        unfold valueAt
        rw [List.find?_cons_of_neg (by simpa using hne)]
      rw [ev]
      exact ih
theorem CmpR.inD {c : Cx} {x : List Nat} {a : Addr} {kvs : List (List Nat × List Nat)} : CmpR c .In (.f (.str x)) (.dict a kvs) (kvs.lookup x).isSome := fun ok s v1 v2 Q inv r1 r2 h => by
  cases r1
  rename_i t
  obtain ⟨rfl, hm, o, kvs', ho, hd, e⟩ := r2
  have hdo : s.heap.DictOf (PySem.strKind PG c.w) a kvs' := Heap.dictOf_iff.mpr ⟨o, ho, hd⟩
  refine wpAny_in_of (knd := PySem.strKind PG c.w) (k := ⟨x.toArray⟩) (by simp [PySem.strKind, Value.isStrOf]) hm hdo.mapOf ?_
  have := val_find x e
  have e2 : (valueAt kvs' ⟨x.toArray⟩).isSome = (kvs.lookup x).isSome := by
    split at this
    · rename_i y hy; obtain ⟨t, ht⟩ := this; rw [ht, hy]; rfl
    · rename_i hy; rw [this, hy]; rfl
  rw [e2]
  exact h _ (inv.tok0 ok _) Up.tok
theorem Ev.subD {c : Cx} {e i : Expr} {pos : Pos} {a : Addr} {kvs : List (List Nat × List Nat)} {x y : List Nat} (h1 : Ev c e (.dict a kvs)) (h2 : Ev c i (.f (.str x))) (hx : kvs.lookup x = some y)
    (hs : ∀ o v, subscripted i false o v = operate [o, v] (getItem o v) := by intro _ _; rfl) : Ev c (.Subscript e i pos) (.f (.str y)) :=
  Ev.mk fun ok s Q inv h => wpAny_Subscript_any hs (h1 ok s _ inv fun v1 s1 i1 u1 r1 _ => h2 ok s1 _ i1 fun v2 s2 i2 u2 r2 _ => by
    have r1' := r1.up u2
    cases r2
    rename_i t
    obtain ⟨rfl, hm, o, kvs', ho, hd, e⟩ := r1'
    have hdo : s2.heap.DictOf (PySem.strKind PG c.w) a kvs' := Heap.dictOf_iff.mpr ⟨o, ho, hd⟩
    have := val_find x e
    rw [hx] at this
    obtain ⟨t', ht'⟩ := this
    refine ⟨"dict", _, slot_dict_getitem.lookup, hdo.typeIs, wpAny_getItem_of (knd := PySem.strKind PG c.w) (k := ⟨x.toArray⟩) (by simp [PySem.strKind, Value.isStrOf]) hdo.mapOf ht' ?_⟩
    exact h _ _ (i2.tok0 ok _) ((u1.trans u2).trans Up.tok) (.str _ _) trivial)

/-- a new empty list that will grow -/
theorem S1E.newList {c : Cx} {x : Str} {p' pos lp : Pos} {P' : List (Str × D) → Prop} (hown : c.env.cells = c.own) (hk : Loc c x) (hv' : ∀ l, c.B.heap.get? l = none → ∃ vs', P' vs' ∧ SetV x (.mlist l []) c.vars vs') :
    S1E c (.Assign [.Name x p'] (.List [] lp) pos) P' := S1E.assign (P := fun d => ∃ l, c.B.heap.get? l = none ∧ d = .mlist l []) (fun ok s Q inv h => by
    refine wpAny_List (Evs.nil ok s _ inv fun vs s1 i1 u1 r1 => ?_)
    cases r1
    refine ⟨by decide, ?_⟩
    have hfr : s1.heap.get? s1.heap.objs.size = none := fresh_size (Nat.le_refl _)
    refine h (.mlist s1.heap.objs.size []) _ _ ⟨_, ?_, rfl⟩ (i1.push0 ok _ _) (u1.trans Up.push) ⟨rfl, [], 0, Heap.get?_push_size _ rfl, .nil⟩ trivial
    exact i1.up.none hfr) hown hk (fun d ⟨l, hl, e⟩ => e ▸ hv' l hl) rfl
end Mine
end

section
open PySem PySem.W PyProof.Rows PySem.Calls
set_option maxHeartbeats 4000000
namespace Mine

theorem SetV.add {x : Str} {d : D} {vs : List (Str × D)} (h : vs.all (fun p => p.1 != x) = true) : SetV x d vs ((x, d) :: vs) := fun p hp => by
  rcases List.mem_cons.mp hp with rfl | hp
  · exact .inl rfl
  · exact .inr ⟨hp, by simpa using List.all_eq_true.mp h p hp⟩
theorem SetV.upd {x : Str} {d d0 : D} {vs : List (Str × D)} (h : vs.all (fun p => p.1 != x) = true) : SetV x d ((x, d0) :: vs) ((x, d) :: vs) := fun p hp => by
  rcases List.mem_cons.mp hp with rfl | hp
  · exact .inl rfl
  · exact .inr ⟨.tail _ hp, by simpa using List.all_eq_true.mp h p hp⟩
theorem Sub.refl {vs : List (Str × D)} : Sub vs vs := fun _ h => h
theorem Sub.nil {vs : List (Str × D)} : Sub [] vs := fun _ h => nomatch h
theorem Sub.cons {x : Str} {d : D} {vs' vs : List (Str × D)} (h : vs.lookup x = some d) (r : Sub vs' vs) : Sub ((x, d) :: vs') vs := fun p hp => by
  rcases List.mem_cons.mp hp with rfl | hp
  · exact lookup_mem h
  · exact r p hp

abbrev dS (l : List Nat) : D := .f (.str l)
abbrev dB (b : Bool) : D := .f (.bool b)
abbrev dI (i : Int) : D := .f (.int i)
def ampT : List Nat := [97, 109, 112, 59]
def namesL (html : Bool) : List (List Nat × List Nat) := if html = true then [([38], [97, 109, 112, 59]), ([62], [103, 116, 59]), ([34], [113, 117, 111, 116, 59])] else [([38], [97, 109, 112, 59]), ([60], [108, 116, 59]), ([62], [103, 116, 59])]
def rowL (m k : Nat) : List Nat := if (m == 46) = true then mulS [46] (7 - (k : Int)) else [38] ++ mulS ampT (6 - (k : Int))
def tailL (tail : List Nat) (html : Bool) (k : Nat) : List Nat := match (namesL html).lookup tail with
  | some y => ([38] ++ mulS ampT (5 - (k : Int))) ++ y
  | none => tail
def lineL (marks tail : List Nat) (html : Bool) (k : Nat) : List Nat := (rowL (marks.getD k 0) k ++ tailL tail html k) ++ [13, 10]
def grownL (marks tail : List Nat) (html : Bool) : List Nat := joinL [] ((List.range 6).map (lineL marks tail html))

theorem mulS_length (a : List Nat) (n : Int) : (mulS a n).length = n.toNat * a.length := by
  unfold mulS
  generalize n.toNat = k
  induction k with
  | zero => simp
  | succ k ih => rw [List.replicate_succ, List.flatten_cons, List.length_append, ih, Nat.succ_mul]; omega

theorem rngF_get {n i : Nat} {x : F} (h : (rngF n)[i]? = some x) : x = .int i ∧ i < n := by
  unfold rngF at h
  rw [List.getElem?_map] at h
  have hi : i < n := by
    rcases Nat.lt_or_ge i n with q | q
    · exact q
    · rw [List.getElem?_eq_none (by simpa using q)] at h; cases h
  rw [List.getElem?_range hi] at h
  cases h
  exact ⟨rfl, hi⟩
theorem rngF_len (n : Nat) : (rngF n).length = n := by simp [rngF]

theorem lookup_mem' {α β : Type} [BEq α] [LawfulBEq α] : ∀ {l : List (α × β)} {x : α} {d : β}, l.lookup x = some d → (x, d) ∈ l
  | (y, e) :: r, x, d, h => by
    rw [List.lookup_cons] at h
    cases q : x == y with
    | true => rw [q] at h; rw [beq_iff_eq.mp q]; cases h; exact .head _
    | false => rw [q] at h; exact .tail _ (lookup_mem' h)
section
variable {w : World} {K : Frag} {k : Nat} {a : Addr} {pm cd doc : Value} {marks tail : List Nat} {html : Bool}


theorem rowL_len (m i : Nat) : (rowL m i).length ≤ 30 := by
  unfold rowL
  split
  · rw [mulS_length]; simp; omega
  · rw [List.length_append, mulS_length]; simp [ampT]; omega
theorem tailL_len (ht : tail.length ≤ 100) (i : Nat) : (tailL tail html i).length ≤ 200 := by
  unfold tailL
  split
  · rename_i y hy
    rw [List.length_append, List.length_append, mulS_length]
    have : y.length ≤ 5 := by
      have := lookup_mem' hy
      cases html <;> simp [namesL] at this <;> rcases this with ⟨_, rfl⟩ | ⟨_, rfl⟩ | ⟨_, rfl⟩ <;> simp
    simp [ampT]; omega
  · omega
theorem grown (hr : gval K "range" = some (.type "range")) (hm : marks.length = 6) (ht : tail.length ≤ 100) :
    FnSpec w K k (fdOf (stAt 15) "_law_grown" pm cd doc) a (bodyS (stAt 15)) false [("marks", dS marks), ("tail", dS tail), ("html", dB html)] (dS (grownL marks tail html)) := fun A L B => by
  refine SX.consE (P := fun (vs : List (Str × D)) => ∃ dn, vs = ([("names", D.dict dn (namesL html)), ("marks", dS marks), ("tail", dS tail), ("html", dB html)] : List (Str × D)))
    (S1E.assign (EvE.ite (P := fun d => ∃ dn, d = D.dict dn (namesL html)) (Ts.val (Ev.name rfl) TruR.bool) ?_) rfl (.inl rfl) (fun d ⟨dn, e⟩ => ⟨_, ⟨dn, rfl⟩, by subst e; exact SetV.add (by rfl)⟩) rfl) ?_
  · cases html
    · exact EvE.dict (namesL false) rfl rfl (by decide) rfl rfl nofun (by decide)
    · exact EvE.dict (namesL true) rfl rfl (by decide) rfl rfl nofun (by decide)
  rintro _ ⟨dn, rfl⟩
  refine SX.consE (P := fun (vs : List (Str × D)) => ∃ l, B.heap.get? l = none ∧ vs = ([("rows", D.mlist l []), ("names", D.dict dn (namesL html)), ("marks", dS marks), ("tail", dS tail), ("html", dB html)] : List (Str × D)))
    (S1E.newList rfl (.inl rfl) (fun l hl => ⟨_, ⟨l, hl, rfl⟩, SetV.add (by rfl)⟩)) ?_
  rintro _ ⟨l, hl, rfl⟩
  let V : Nat → List (Str × D) := fun i => [("rows", D.mlist l (((List.range i).map (lineL marks tail html)).map F.str)), ("names", D.dict dn (namesL html)), ("marks", dS marks), ("tail", dS tail)]
  refine SX.cons (S1.for V (It.range (n := 6) (Ev.glob rfl hr) Ev.cint (by decide)) (fun o h => .inl h) ?_ ?_ (by intro _; rfl)) ?_
  · exact .cons rfl (.cons rfl (.cons rfl (.cons rfl .nil)))
  · intro i x hx
    obtain ⟨rfl, hi⟩ := rngF_get hx
    refine ⟨_, Tgt.name, ?_, ?_, V (i + 1), .inl ?_, Sub.refl⟩
    · intro q hq; simp at hq; subst hq; rfl
    · intro p hp; simp [V] at hp; rcases hp with rfl | rfl | rfl | rfl <;> rfl
    have hi' : i < marks.length := by rw [hm]; exact hi
    have hmk : marks[i]? = some (marks.getD i 0) := by simp [List.getElem?_eq_getElem hi', List.getD]
    have hmk' : marks[((i : Nat) : Int).toNat]? = some (marks.getD i 0) := by simpa using hmk
    have heq : ([marks.getD i 0] == [46]) = (marks.getD i 0 == 46) := by
      show (marks.getD i 0 == 46 && true) = _
      simp
    refine SX.cons (S1.assign (d := dS (rowL (marks.getD i 0) i)) (Ev.ite (q := (marks.getD i 0 == 46)) ?_ (fun e => ?_) (fun e => ?_)) rfl (.inl rfl) (SetV.add (by rfl)) rfl) ?_
    · rw [← heq]
      exact Ts.cmp (Ev.sub (Ev.name rfl) (Ev.name rfl) (SubR.str (by omega) (by omega) hmk')) (Ev.cstr rfl) CmpR.eqS
    · have er : rowL (marks.getD i 0) i = mulS [46] (7 - (i : Int)) := by unfold rowL; rw [e]; rfl
      rw [er]
      exact Ev.bin (Ev.cstr rfl) (Ev.bin Ev.cint (Ev.name rfl) BinR.subI) (BinR.mulS (by omega) (by omega) (by decide))
    · have er : rowL (marks.getD i 0) i = [38] ++ mulS ampT (6 - (i : Int)) := by unfold rowL; rw [e]; rfl
      rw [er]
      exact Ev.bin (Ev.cstr (l := [38]) rfl) (Ev.bin (Ev.cstr (l := ampT) rfl) (Ev.bin Ev.cint (Ev.name rfl) BinR.subI) (BinR.mulS (by omega) (by omega) (by decide))) (BinR.addS (by rw [mulS_length]; simp [ampT]; omega))
    refine SX.cons (S1.append (y := .str (lineL marks tail html i)) (Ev.name rfl) ?_ slot_list_append hl rfl (by simp; omega) ?_ rfl (by intro _; rfl) rfl rfl rfl) SX.nil
    · have l1 := rowL_len (marks.getD i 0) i
      have l2 := tailL_len (html := html) ht i
      refine Ev.bin (Ev.bin (Ev.name rfl) (Ev.ite (d := dS (tailL tail html i)) (q := ((namesL html).lookup tail).isSome) ?_ (fun e => ?_) (fun e => ?_)) (BinR.addS (by omega))) (Ev.cstr (l := [13, 10]) rfl) (BinR.addS (by rw [List.length_append]; simp only [List.length_cons, List.length_nil]; omega))
      · exact Ts.cmp (Ev.name rfl) (Ev.name rfl) CmpR.inD
      · obtain ⟨y, hy⟩ := Option.isSome_iff_exists.mp e
        have er : tailL tail html i = ([38] ++ mulS ampT (5 - (i : Int))) ++ y := by unfold tailL; rw [hy]
        rw [er] at l2 ⊢
        rw [List.length_append, List.length_append] at l2
        exact Ev.bin (Ev.bin (Ev.cstr (l := [38]) rfl) (Ev.bin (Ev.cstr (l := ampT) rfl) (Ev.bin Ev.cint (Ev.name rfl) BinR.subI) (BinR.mulS (by omega) (by omega) (by decide))) (BinR.addS (by omega))) (Ev.subD (Ev.name rfl) (Ev.name rfl) hy) (BinR.addS (by rw [List.length_append]; omega))
      · have hy : (namesL html).lookup tail = none := by simpa using e
        have er : tailL tail html i = tail := by unfold tailL; rw [hy]
        rw [er]
        exact Ev.name rfl
    · intro p hp
      simp only [V, List.mem_cons, List.not_mem_nil, or_false] at hp
      rcases hp with rfl | rfl | rfl | rfl
      · left
        rw [List.range_succ, List.map_append, List.map_append]; rfl
      all_goals (right; exact ⟨by simp [V], rfl⟩)
  · rw [rngF_len]
    refine SX.ret (S1.ret (d := dS (grownL marks tail html)) ?_)
    refine Ev.methS (c := (fnCx w K k A (fdOf (stAt 15) "_law_grown" pm cd doc) a L B false (V 6))) (o := .Constant (.str "") 0 ⟨79, 11, 79, 13⟩) (e := .Name "rows" ⟨79, 19, 79, 23⟩) (name := "join") (apos := ⟨79, 11, 79, 18⟩) (pos := ⟨79, 11, 79, 24⟩) (x := []) (Ev.cstr rfl) PySem.F.slot_str_join rfl (Ev.mlist (Ev.name rfl))
      (CallR2.join (sep := []) (ls := (List.range 6).map (lineL marks tail html)) ?_)
    have h1 : ∀ i ∈ List.range 6, (lineL marks tail html i).length ≤ 300 := fun i hi => by
      have l1 := rowL_len (marks.getD i 0) i
      have l2 := tailL_len (html := html) ht i
      unfold lineL
      rw [List.length_append, List.length_append]
      simp only [List.length_cons, List.length_nil]; omega
    simp only [List.range_succ, List.range_zero, List.nil_append, List.map_append, List.map_cons, List.map_nil, List.sum_append, List.sum_cons, List.sum_nil, List.cons_append, List.length_nil] at h1 ⊢
    have a0 := h1 0 (by simp); have a1 := h1 1 (by simp); have a2 := h1 2 (by simp); have a3 := h1 3 (by simp); have a4 := h1 4 (by simp); have a5 := h1 5 (by simp)
    omega
end
end Mine
end

section
open PySem PySem.W PyProof.Rows PySem.Calls
set_option maxHeartbeats 4000000
namespace Mine

theorem preSum_is : ∀ (xs : List Int) (n : Nat), n ≤ xs.length → preSum (fun i => xs.getD i 0) n = (xs.take n).sum
  | xs, 0, _ => by simp [preSum]
  | xs, n + 1, h => by
    have ih := preSum_is xs n (by omega)
    have hlt : n < xs.length := h
    rw [show preSum (fun i => xs.getD i 0) (n + 1) = preSum (fun i => xs.getD i 0) n + xs.getD n 0 from rfl, ih, List.take_add_one, List.sum_append]
    simp [List.getElem?_eq_getElem hlt, List.getD]
theorem CallR1.sumL {c : Cx} {xs : List Int} : CallR1 c (.builtin "sum") (.list (xs.map F.int)) (.f (.int xs.sum)) := fun ok s v Q inv r h => by
  obtain ⟨l, vs, n, rfl, ho, hl, q⟩ := list_is r
  have hlen : vs.length = xs.length := by rw [q.length, List.length_map]
  have hne : l ≠ s.heap.objs.size := Nat.ne_of_lt (Heap.lt_size ho)
  refine call_sum_walkG (wpAny_pyIter_list hl ⟨s.heap.objs.size, [s.heap.objs.size, l], [s.heap.objs.size], vs.toArray.size, fun i v => vs.toArray[i]? = some v,
    fun i h => h.IsListIter s.heap.objs.size l i ∧ h.IsList l vs.toArray, fun i => xs.getD i 0, rfl, Walks.list (A := c.A.in1) ok.handled s.heap.objs.size l hne vs.toArray, ⟨⟨_, Heap.get?_push_size _ rfl, rfl, rfl⟩, hl.push _⟩, ?_, ?_, ?_⟩)
  · intro b hb
    simp at hb
    rw [Heap.size_push]
    rcases hb with rfl | rfl
    · exact Nat.lt_succ_self _
    · exact Nat.lt_succ_of_lt (Heap.lt_size ho)
  · intro i v hv
    obtain ⟨x, hx, rx⟩ := q.get' (i := i) (by simpa using hv)
    rw [List.getElem?_map] at hx
    cases hi : xs[i]? with
    | none => rw [hi] at hx; cases hx
    | some y =>
      rw [hi] at hx
      cases hx
      cases rx
      rename_i t0
      exact ⟨t0, by simp [List.getD, hi]⟩
  · intro h' tk t' hk
    have e : preSum (fun i => xs.getD i 0) vs.toArray.size = xs.sum := by
      have := preSum_is xs xs.length (Nat.le_refl _)
      rw [List.take_length] at this
      rw [← this]; congr 1
    rw [e]
    have kk : ∀ b o, s.heap.get? b = some o → h'.get? b = some o := fun b o eb => hk b o (by
      intro hm
      simp at hm
      subst hm
      rw [fresh_size (Nat.le_refl _)] at eb; cases eb) (Heap.get?_push_of_some _ eb)
    exact h _ _ (inv.keeps0 ok kk) (Up.of kk) (.int _ _) trivial
end Mine
end

section
open PySem PySem.W PyProof.Rows PySem.Calls
set_option maxHeartbeats 4000000
namespace Mine

def pI (p : Nat → Bool) : F → Bool
  | .int i => p i.toNat
  | _ => false
def gI (g : Nat → F) : F → F
  | .int i => g i.toNat
  | x => x
theorem rngF_comp (n : Nat) (p : Nat → Bool) (g : Nat → F) : ((rngF n).filter (pI p)).map (gI g) = ((List.range n).filter p).map g := by
  unfold rngF
  rw [List.filter_map, List.map_map]
  congr 1
theorem Ev.compR {c : Cx} {elt : Expr} {x : Str} {px rp rpos cpos : Pos} {e : Expr} {ifs : List Expr} {scope : Scope} {cl : List (Str × Addr)} {cap : List (Str × D)} {n : Nat} (p : Nat → Bool) (g : Nat → F)
    (hr : Ev c (.Name "range" rp) (.val (.type "range"))) (h1 : Ev c e (.f (.int n))) (hn : n ≤ 1000) (hclos : closureFor scope c.env = pure cl) (hcell : ∀ y ∈ scope.names, y.2 ≠ .cell) (hkind : scope.kind = .function)
    (hnames : ∀ y ∈ scope.names, y.2 = .local → scope.names.lookup y.1 = some .local) (hx : scope.names.lookup x = some .local) (hcap : Caps c scope cl cap)
    (hb : ∀ i, i < n → ∀ C B, Tests (subC c scope cl C B ((x, dI (i : Int)) :: cap)) ifs (p i) ∧ (p i = true → Ev (subC c scope cl C B ((x, dI (i : Int)) :: cap)) elt (.f (g i))))
    (he : ∀ env, starEach [e] env = [(false, eval e env)] := by intro _; rfl)
    (hs : ∀ x, foldedSetIterable (.Call (.Name "range" rp) [e] [] rpos) c.env x = pure x := by intro _; rfl) :
    Ev c (.ListComp elt [⟨.Name x px, .Call (.Name "range" rp) [e] [] rpos, ifs, 0⟩] scope cpos) (.list (((List.range n).filter p).map g)) := by
  rw [← rngF_comp]
  refine Ev.comp (pI p) (gI g) (It.range hr h1 hn he) (fun o ⟨m, fs, hc, _⟩ => .inl (by rw [hc]; nofun)) (by rw [rngF_len]; exact hn) hclos hcell hkind hnames hcap (fun y hy => ?_) hs
  obtain ⟨i, hi⟩ := List.getElem?_of_mem hy
  obtain ⟨rfl, hi'⟩ := rngF_get hi
  refine ⟨_, .name, fun q hq => ?_, fun C B => ?_, fun hp C B => ?_⟩
  · simp at hq; subst hq; exact hx
  · exact (hb i hi' C B).1
  · exact (hb i hi' C B).2 hp

abbrev tkS (m : List Nat) (k : Int) : List Nat := sliceL m none (some k)
abbrev dpS (m : List Nat) (k : Int) : List Nat := sliceL m (some k) none
def gapI (m : List Nat) (told : Int) : Int := told - (((List.range m.length).filter fun k => [m.getD k 0] == [46]).map fun (k : Nat) => (m.length : Int) - (k : Int)).sum
def dotsI (m : List Nat) : Int := (m.count 46 : Nat)
def mend5a (m : List Nat) (gap : Int) : List (List Nat) := ((List.range 6).filter fun (k : Nat) => (((tkS m k).count 46 : Nat) : Int) == gap.fmod 7).map fun (k : Nat) => (tkS m k ++ [38]) ++ dpS m k
def mend5b (m : List Nat) (gap : Int) : List (List Nat) := ((List.range 6).filter fun (k : Nat) => (((dpS m k).count 38 : Nat) : Int) == gap.fmod 7 - dotsI m - 1).map fun (k : Nat) => (tkS m k ++ [46]) ++ dpS m k
def mend7 (m : List Nat) (gap : Int) : List (List Nat) := ((List.range 7).filter fun (k : Nat) => (if ([m.getD k 0] == [38]) = true then (((tkS m k).count 46 : Nat) : Int) else dotsI m + ((dpS m k).count 38 : Nat)).fmod 7 == (-gap).fmod 7).map fun (k : Nat) => tkS m k ++ dpS m ((k : Int) + 1)
def mend6 (m : List Nat) (gap : Int) : List (List Nat) := ((List.range 6).filter fun (k : Nat) => (if ([m.getD k 0] == [38]) = true then 6 - (k : Int) else 6 + (k : Int)) == gap.fmod 12).map fun (k : Nat) => (tkS m k ++ (if ([m.getD k 0] == [38]) = true then [46] else [38])) ++ dpS m ((k : Int) + 1)
def mendedL (m : List Nat) (told : Int) : List (List Nat) :=
  if (((m.length : Int) == 5) && (decide ((gapI m told).fmod 7 ≤ dotsI m) && true)) = true then mend5a m (gapI m told)
  else if ((m.length : Int) == 5) = true then mend5b m (gapI m told)
  else if ((m.length : Int) == 7) = true then mend7 m (gapI m told)
  else mend6 m (gapI m told)

theorem getD_some {m : List Nat} {i n : Nat} (h : i < n) (hn : n ≤ m.length) : m[((i : Nat) : Int).toNat]? = some (m.getD i 0) := by
  have : i < m.length := by omega
  simp [List.getElem?_eq_getElem this, List.getD]
theorem sliceL_len {α : Type} (m : List α) (a b : Option Int) : (sliceL m a b).length ≤ m.length := by
  unfold sliceL
  rw [List.length_take, List.length_drop]; omega

theorem Ts.cast {c : Cx} {t : Expr} {b b' : Bool} (h : Ts c t b) (e : b = b') : Ts c t b' := e ▸ h
theorem Ev.iteI {c : Cx} {t x y : Expr} {pos : Pos} {q : Bool} {i j : Int} (h1 : Ts c t q) (h2 : Ev c x (.f (.int i))) (h3 : Ev c y (.f (.int j))) : Ev c (.IfExp t x y pos) (.f (.int (if q = true then i else j))) :=
  Ev.ite h1 (fun e => by rw [if_pos e]; exact h2) fun e => by rw [if_neg (by rw [e]; exact Bool.false_ne_true)]; exact h3
theorem Ev.iteS {c : Cx} {t x y : Expr} {pos : Pos} {q : Bool} {i j : List Nat} (h1 : Ts c t q) (h2 : Ev c x (.f (.str i))) (h3 : Ev c y (.f (.str j))) : Ev c (.IfExp t x y pos) (.f (.str (if q = true then i else j))) :=
  Ev.ite h1 (fun e => by rw [if_pos e]; exact h2) fun e => by rw [if_neg (by rw [e]; exact Bool.false_ne_true)]; exact h3
section
variable {w : World} {K : Frag} {k : Nat} {a : Addr} {pm cd doc : Value} {marks : List Nat} {told : Int}
theorem mended (hr : gval K "range" = some (.type "range")) (hlen : gval K "len" = some (.builtin "len")) (hsum : gval K "sum" = some (.builtin "sum")) (hm : marks.length = 5 ∨ marks.length = 6 ∨ marks.length = 7) :
    FnSpec w K k (fdOf (stAt 16) "_law_mended" pm cd doc) a (bodyS (stAt 16)) true [("marks", dS marks), ("told", dI told)] (.list ((mendedL marks told).map F.str)) := fun A L B => by
  have hs : marks.length ≤ 1000000 := by omega
  have hlt : ∀ k : Int, (sliceL marks none (some k)).length ≤ 7 := fun k => Nat.le_trans (sliceL_len marks none (some k)) (by omega)
  have hld : ∀ k : Int, (sliceL marks (some k) none).length ≤ 7 := fun k => Nat.le_trans (sliceL_len marks (some k) none) (by omega)
  refine SX.cons (S1.assign (d := dI (dotsI marks)) (Ev.methS (Ev.name rfl) PySem.F.slot_str_count rfl (Ev.cstr (l := [46]) rfl) CallR2.count) rfl (.inr ⟨rfl, rfl, rfl⟩) (SetV.add (by rfl)) rfl) ?_
  refine SX.cons (S1.assign (d := dI (gapI marks told)) (Ev.bin (Ev.name rfl) (Ev.call1 (Ev.glob rfl hsum) (.inl ⟨_, rfl⟩) ?_ (CallR1.sumL (xs := ((List.range marks.length).filter fun k => [marks.getD k 0] == [46]).map fun (k : Nat) => (marks.length : Int) - (k : Int)))) BinR.subI) rfl (.inr ⟨rfl, rfl, rfl⟩) (SetV.add (by rfl)) rfl) ?_
  · rw [List.map_map]
    refine Ev.compR (n := marks.length) (fun k => [marks.getD k 0] == [46]) _ (Ev.glob rfl hr) (Ev.call1 (Ev.glob rfl hlen) (.inl ⟨_, rfl⟩) (Ev.name rfl) (CallR1.lenS hs)) (by omega) rfl (by decide) rfl (by decide) rfl (.cons (y := "marks") rfl rfl rfl rfl rfl rfl .nil) ?_
    intro i hi C B'
    exact ⟨.inr ⟨_, rfl, Ts.cmp (Ev.sub (Ev.name rfl) (Ev.name rfl) (SubR.str (by omega) (by omega) (getD_some hi (Nat.le_refl _)))) (Ev.cstr (l := [46]) rfl) CmpR.eqS⟩,
      fun _ => Ev.bin (Ev.call1 (Ev.glob rfl hlen) (.inl ⟨_, rfl⟩) (Ev.name rfl) (CallR1.lenS hs)) (Ev.name rfl) BinR.subI⟩
  unfold mendedL
  generalize gapI marks told = gap
  by_cases h5 : marks.length = 5
  · have hm' : ((marks.length : Int) == 5) = true := by simp [h5]
    by_cases hg : gap.fmod 7 ≤ dotsI marks
    · rw [if_pos (by simp [h5, hg])]
      refine SX.ret (S1.ite (b := true) (Ts.cast (Ts.bool (All.consA (Ts.cmp (Ev.call1 (Ev.glob rfl hlen) (.inl ⟨_, rfl⟩) (Ev.name rfl) (CallR1.lenS hs)) Ev.cint CmpR.eqI) fun _ => All.consA (Ts.cmp (Ev.bin (Ev.name rfl) Ev.cint (BinR.modI (by decide))) (Ev.name rfl) CmpR.leI) fun _ => All.nilA)) (by simp [h5, hg])) (SX.ret (S1.ret ?_)))
      rw [mend5a, List.map_map]
      refine Ev.compR (n := 6) _ _ (Ev.glob rfl hr) Ev.cint (by decide) rfl (by decide) rfl (by decide) rfl (.cons (y := "marks") rfl rfl rfl rfl rfl rfl (.cons (y := "gap") rfl rfl rfl rfl rfl rfl .nil)) ?_
      intro i hi C B'
      exact ⟨.inr ⟨_, rfl, Ts.cmp (Ev.methS (Ev.cutS (Ev.name rfl) Part.none (Part.some (Ev.name rfl)) hs) PySem.F.slot_str_count rfl (Ev.cstr (l := [46]) rfl) CallR2.count) (Ev.bin (Ev.name rfl) Ev.cint (BinR.modI (by decide))) CmpR.eqI⟩, fun _ => Ev.bin (Ev.bin (Ev.cutS (Ev.name rfl) Part.none (Part.some (Ev.name rfl)) hs) (Ev.cstr (l := [38]) rfl) (BinR.addS (by have h1 := hlt i; have h2 := hld i; have h3 := hld (i + 1); (try simp only [List.length_append, List.length_cons, List.length_nil]); omega))) (Ev.cutS (Ev.name rfl) (Part.some (Ev.name rfl)) Part.none hs) (BinR.addS (by have h1 := hlt i; have h2 := hld i; have h3 := hld (i + 1); (try simp only [List.length_append, List.length_cons, List.length_nil]); omega))⟩
    · rw [if_neg (by simp [h5, hg]), if_pos hm']
      refine SX.cons (S1.ite (b := false) (Ts.cast (Ts.bool (All.consA (Ts.cmp (Ev.call1 (Ev.glob rfl hlen) (.inl ⟨_, rfl⟩) (Ev.name rfl) (CallR1.lenS hs)) Ev.cint CmpR.eqI) fun _ => All.consA (Ts.cmp (Ev.bin (Ev.name rfl) Ev.cint (BinR.modI (by decide))) (Ev.name rfl) CmpR.leI) fun _ => All.nilA)) (by simp [h5, hg])) SX.nil) ?_
      refine SX.ret (S1.ite (b := true) (Ts.cast (Ts.cmp (Ev.call1 (Ev.glob rfl hlen) (.inl ⟨_, rfl⟩) (Ev.name rfl) (CallR1.lenS hs)) Ev.cint CmpR.eqI) hm') (SX.ret (S1.ret ?_)))
      rw [mend5b, List.map_map]
      refine Ev.compR (n := 6) _ _ (Ev.glob rfl hr) Ev.cint (by decide) rfl (by decide) rfl (by decide) rfl (.cons (y := "marks") rfl rfl rfl rfl rfl rfl (.cons (y := "gap") rfl rfl rfl rfl rfl rfl (.cons (y := "dots") rfl rfl rfl rfl rfl rfl .nil))) ?_
      intro i hi C B'
      exact ⟨.inr ⟨_, rfl, Ts.cmp (Ev.methS (Ev.cutS (Ev.name rfl) (Part.some (Ev.name rfl)) Part.none hs) PySem.F.slot_str_count rfl (Ev.cstr (l := [38]) rfl) CallR2.count) (Ev.bin (Ev.bin (Ev.bin (Ev.name rfl) Ev.cint (BinR.modI (by decide))) (Ev.name rfl) BinR.subI) Ev.cint BinR.subI) CmpR.eqI⟩, fun _ => Ev.bin (Ev.bin (Ev.cutS (Ev.name rfl) Part.none (Part.some (Ev.name rfl)) hs) (Ev.cstr (l := [46]) rfl) (BinR.addS (by have h1 := hlt i; have h2 := hld i; have h3 := hld (i + 1); (try simp only [List.length_append, List.length_cons, List.length_nil]); omega))) (Ev.cutS (Ev.name rfl) (Part.some (Ev.name rfl)) Part.none hs) (BinR.addS (by have h1 := hlt i; have h2 := hld i; have h3 := hld (i + 1); (try simp only [List.length_append, List.length_cons, List.length_nil]); omega))⟩
  · have hm' : ((marks.length : Int) == 5) = false := by simp; omega
    rw [if_neg (by simp [hm']), if_neg (by simp [hm'])]
    refine SX.cons (S1.ite (b := false) (Ts.cast (Ts.bool (All.consA (Ts.cmp (Ev.call1 (Ev.glob rfl hlen) (.inl ⟨_, rfl⟩) (Ev.name rfl) (CallR1.lenS hs)) Ev.cint CmpR.eqI) fun _ => All.consA (Ts.cmp (Ev.bin (Ev.name rfl) Ev.cint (BinR.modI (by decide))) (Ev.name rfl) CmpR.leI) fun _ => All.nilA)) (by simp [hm'])) SX.nil) ?_
    refine SX.cons (S1.ite (b := false) (Ts.cast (Ts.cmp (Ev.call1 (Ev.glob rfl hlen) (.inl ⟨_, rfl⟩) (Ev.name rfl) (CallR1.lenS hs)) Ev.cint CmpR.eqI) hm') SX.nil) ?_
    by_cases h7 : marks.length = 7
    · have hm7 : ((marks.length : Int) == 7) = true := by simp [h7]
      rw [if_pos hm7]
      refine SX.ret (S1.ite (b := true) (Ts.cast (Ts.cmp (Ev.call1 (Ev.glob rfl hlen) (.inl ⟨_, rfl⟩) (Ev.name rfl) (CallR1.lenS hs)) Ev.cint CmpR.eqI) hm7) (SX.ret (S1.ret ?_)))
      rw [mend7, List.map_map]
      refine Ev.compR (n := 7) _ _ (Ev.glob rfl hr) Ev.cint (by decide) rfl (by decide) rfl (by decide) rfl (.cons (y := "marks") rfl rfl rfl rfl rfl rfl (.cons (y := "gap") rfl rfl rfl rfl rfl rfl (.cons (y := "dots") rfl rfl rfl rfl rfl rfl .nil))) ?_
      intro i hi C B'
      exact ⟨.inr ⟨_, rfl, Ts.cmp (Ev.bin (Ev.iteI (Ts.cmp (Ev.sub (Ev.name rfl) (Ev.name rfl) (SubR.str (by omega) (by omega) (getD_some hi (by omega)))) (Ev.cstr (l := [38]) rfl) CmpR.eqS) (Ev.methS (Ev.cutS (Ev.name rfl) Part.none (Part.some (Ev.name rfl)) hs) PySem.F.slot_str_count rfl (Ev.cstr (l := [46]) rfl) CallR2.count) (Ev.bin (Ev.name rfl) (Ev.methS (Ev.cutS (Ev.name rfl) (Part.some (Ev.name rfl)) Part.none hs) PySem.F.slot_str_count rfl (Ev.cstr (l := [38]) rfl) CallR2.count) BinR.addI)) Ev.cint (BinR.modI (by decide))) (Ev.bin (Ev.neg (Ev.name rfl)) Ev.cint (BinR.modI (by decide))) CmpR.eqI⟩, fun _ => Ev.bin (Ev.cutS (Ev.name rfl) Part.none (Part.some (Ev.name rfl)) hs) (Ev.cutS (Ev.name rfl) (Part.some (Ev.bin (Ev.name rfl) Ev.cint BinR.addI)) Part.none hs) (BinR.addS (by have h1 := hlt i; have h2 := hld i; have h3 := hld (i + 1); (try simp only [List.length_append, List.length_cons, List.length_nil]); omega))⟩
    · have hm7 : ((marks.length : Int) == 7) = false := by simp; omega
      rw [if_neg (by simp [hm7])]
      refine SX.cons (S1.ite (b := false) (Ts.cast (Ts.cmp (Ev.call1 (Ev.glob rfl hlen) (.inl ⟨_, rfl⟩) (Ev.name rfl) (CallR1.lenS hs)) Ev.cint CmpR.eqI) hm7) SX.nil) ?_
      refine SX.ret (S1.ret ?_)
      rw [mend6, List.map_map]
      refine Ev.compR (n := 6) _ _ (Ev.glob rfl hr) Ev.cint (by decide) rfl (by decide) rfl (by decide) rfl (.cons (y := "marks") rfl rfl rfl rfl rfl rfl (.cons (y := "gap") rfl rfl rfl rfl rfl rfl .nil)) ?_
      intro i hi C B'
      exact ⟨.inr ⟨_, rfl, Ts.cmp (Ev.iteI (Ts.cmp (Ev.sub (Ev.name rfl) (Ev.name rfl) (SubR.str (by omega) (by omega) (getD_some hi (by omega)))) (Ev.cstr (l := [38]) rfl) CmpR.eqS) (Ev.bin Ev.cint (Ev.name rfl) BinR.subI) (Ev.bin Ev.cint (Ev.name rfl) BinR.addI)) (Ev.bin (Ev.name rfl) Ev.cint (BinR.modI (by decide))) CmpR.eqI⟩, fun _ => Ev.bin (Ev.bin (Ev.cutS (Ev.name rfl) Part.none (Part.some (Ev.name rfl)) hs) (Ev.iteS (Ts.cmp (Ev.sub (Ev.name rfl) (Ev.name rfl) (SubR.str (by omega) (by omega) (getD_some hi (by omega)))) (Ev.cstr (l := [38]) rfl) CmpR.eqS) (Ev.cstr (l := [46]) rfl) (Ev.cstr (l := [38]) rfl)) (BinR.addS (by have h1 := hlt i; have h2 := hld i; have h3 := hld (i + 1); split <;> simp only [List.length_append, List.length_cons, List.length_nil] <;> omega))) (Ev.cutS (Ev.name rfl) (Part.some (Ev.bin (Ev.name rfl) Ev.cint BinR.addI)) Part.none hs) (BinR.addS (by have h1 := hlt i; have h2 := hld i; have h3 := hld (i + 1); rw [List.length_append]; split <;> simp only [List.length_append, List.length_cons, List.length_nil] <;> omega))⟩
end
end Mine
end

section
open PySem PySem.W PyProof.Rows PySem.Calls
set_option maxHeartbeats 4000000
namespace Mine
theorem plainAttrs_re : PlainAttrs "re.Pattern" :=
  ⟨⟨"object.__getattribute__", by rw [typeLookup_type, builtinLookup_eq_fast]; kernel_rfl, by decide +kernel⟩, by rw [typeLookup_type, builtinLookup_eq_fast]; kernel_rfl⟩
theorem slot_re_sub : Slot "re.Pattern" "sub" "re.Pattern.sub" :=
  .of (owner := "re.Pattern") (n := "sub") (by rw [typeLookup_type, builtinLookup_eq_fast]; kernel_rfl) (by decide +kernel) (by decide +kernel) (by decide +kernel)
    (by first | exact .inl (by decide +kernel) | exact .inr (by decide +kernel)) (by rw [isSubtype_type]; kernel_rfl)
theorem type_re_sub : typeOf (.builtin "re.Pattern.sub") = pure (.type "method_descriptor") := by show builtinType _ = _; rw [builtinType_eq_fast]; kernel_rfl
theorem entry_re_sub : entryFor table "re.Pattern.sub" = some Builtin.«re.Pattern.sub» := entryFor_of_tree (by kernel_rfl)
theorem entry_re_loop : entryFor table "re.Pattern.sub.loop" = some Builtin.«re.Pattern.sub.loop» := entryFor_of_tree (by kernel_rfl)
theorem args_re_sub (a b c : Value) : argsOk "re.Pattern.sub" ⟨[a, b, c], []⟩ := by unfold argsOk; kernel_rfl
theorem plain_re_loop : plainId "re.Pattern.sub.loop" = true := by decide +kernel
theorem nocall_str : typeLookup (.type "str") "__call__" = pure none := by rw [typeLookup_type, builtinLookup_eq_fast]; kernel_rfl
end Mine
end

section
open PySem PySem.W PyProof.Rows PySem.Calls
open PySem.Sre (M)
set_option maxHeartbeats 4000000
namespace Mine

def code1 : Array Nat := #[14, 4, 0, 1, 1, 6, 1, 16, 46, 1]
def code2 : Array Nat := #[14, 9, 4, 1, 2, 16, 10, 16, 13, 0, 7, 7, 16, 13, 16, 10, 15, 18, 5, 16, 10, 15, 13, 11, 16, 13, 5, 5, 0, 16, 10, 1, 15, 2, 0, 1]

abbrev mkM (code T : Array Nat) (start pc pos handed : Nat) (om : Bool) (fr : List Sre.Frame) (wt : Nat) (ans : Option Bool) (sn : Sre.Seen) : M :=
  { code, text := T, lim := T.size, start, lastStart := T.size, wholeText := false, mustAdvance := false, pc, pos, handed, outermost := om, marks := #[], lastmark := -1, lastindex := -1, loops := #[], inner := none, frames := fr, weight := wt, answer := ans, seen := sn, outcome := none }

def stepN : Nat → M → M
  | 0, m => m
  | n + 1, m => stepN n m.step
theorem step_done {m : M} (h : m.outcome.isSome = true) : m.step = m := by unfold M.step; rw [if_pos h]
theorem stepN_done : ∀ (n : Nat) {m : M}, m.outcome.isSome = true → stepN n m = m
  | 0, _, _ => rfl
  | n + 1, m, h => by show stepN n m.step = m; rw [step_done h, stepN_done n h]
theorem stepN_add : ∀ (a b : Nat) (m : M), stepN (a + b) m = stepN b (stepN a m)
  | 0, b, m => by rw [Nat.zero_add]; rfl
  | a + 1, b, m => by rw [Nat.succ_add]; exact stepN_add a b m.step
theorem runFor_is : ∀ (n : Nat) (m : M), M.runFor n m = stepN n m
  | 0, _ => rfl
  | n + 1, m => by
    show (if m.outcome.isSome then m else M.runFor n m.step) = stepN n m.step
    split
    · rename_i h; rw [step_done h, stepN_done n h]
    · exact runFor_is n _

/-- m comes to m' in k steps -/
def Goes (m : M) (k : Nat) (m' : M) : Prop := stepN k m = m'
theorem Goes.refl (m : M) : Goes m 0 m := rfl
theorem Goes.step {m m1 m' : M} {k : Nat} (h : m.step = m1) (g : Goes m1 k m') : Goes m (k + 1) m' := by
  show stepN k m.step = m'; rw [h]; exact g
theorem Goes.stepE {m : M} {f : Sre.Seen → M} {P : M → Prop} {k : Nat} (h : ∃ sn, m.step = f sn) (g : ∀ sn, ∃ j m', Goes (f sn) j m' ∧ j ≤ k ∧ P m') : ∃ j m', Goes m j m' ∧ j ≤ k + 1 ∧ P m' := by
  obtain ⟨sn, e⟩ := h
  obtain ⟨j, m', g', hj, hp⟩ := g sn
  exact ⟨j + 1, m', g'.step e, by omega, hp⟩

section
variable {code T : Array Nat} {start pc pos handed : Nat} {om : Bool} {fr : List Sre.Frame} {wt : Nat} {sn : Sre.Seen}
theorem step_exec (hpc : pc < code.size) : (mkM code T start pc pos handed om fr wt none sn).step = (mkM code T start pc pos handed om fr wt none sn).exec := by
  show (if pc < code.size then _ else _) = _
  exact if_pos hpc
theorem one_word {n : Nat} {op : Sre.Op} (h0 : code.getD pc 0 = n) (hop : Sre.ops[n]? = some op) : Sre.ops[(mkM code T start pc pos handed om fr wt none sn).word 0]? = some op := by
  show Sre.ops[code.getD (pc + 0) 0]? = some op
  rw [Nat.add_zero, h0, hop]
theorem exec_at {m : M} {k : Nat} {b : Bool} (h : Sre.ops[m.word 0]? = some .AT) (hk : m.word 1 = k) (hb : ({ m with seen := m.seen.add (m.word 0) } : M).isAt k = .ok b) :
    m.exec = if b = true then { m with seen := (m.seen.add (m.word 0)).add (43 + k), pc := m.pc + 2 } else ({ m with seen := (m.seen.add (m.word 0)).add (43 + k) } : M).say false := by
  subst hk
  unfold M.exec; rw [h]
  show (match ({ m with seen := m.seen.add (m.word 0) } : M).isAt (m.word 1) with | .error why => _ | .ok yes => _) = _
  rw [hb]
  cases b <;> rfl
theorem exec_lit_end {m : M} (h : Sre.ops[m.word 0]? = some .LITERAL) (hp : m.lim ≤ m.pos) : m.exec = ({ m with seen := m.seen.add (m.word 0) } : M).say false := by
  unfold M.exec; rw [h]
  show (if m.pos ≥ m.lim then _ else _) = _
  exact if_pos hp
theorem exec_lit {m : M} (h : Sre.ops[m.word 0]? = some .LITERAL) (hp : m.pos < m.lim) :
    m.exec = if (m.text.getD m.pos 0 == m.code.getD (m.pc + 1) 0) = true then { m with seen := m.seen.add (m.word 0), pc := m.pc + Sre.itemWidth m.code m.pc, pos := m.pos + 1 } else ({ m with seen := m.seen.add (m.word 0) } : M).say false := by
  have ha : Sre.accepts m.code m.pc (m.text.getD m.pos 0) (m.seen.add (m.word 0)) = .ok (m.text.getD m.pos 0 == m.code.getD (m.pc + 1) 0, m.seen.add (m.word 0)) := by
    have h' : Sre.ops[m.code.getD m.pc 0]? = some .LITERAL := h
    unfold Sre.accepts; rw [h']
  unfold M.exec; rw [h]
  show (if m.pos ≥ m.lim then _ else match Sre.accepts m.code m.pc (m.text.getD m.pos 0) (m.seen.add (m.word 0)) with | .error _ => _ | .ok (false, _) => _ | .ok (true, _) => _) = _
  rw [if_neg (Nat.not_le.mpr hp), ha]
  cases (m.text.getD m.pos 0 == m.code.getD (m.pc + 1) 0) <;> rfl
theorem exec_jump {m : M} (h : Sre.ops[m.word 0]? = some .JUMP) : m.exec = { m with seen := m.seen.add (m.word 0), pc := m.pc + 1 + m.word 1 } := by
  unfold M.exec; rw [h]; rfl
theorem exec_success {m : M} (h : Sre.ops[m.word 0]? = some .SUCCESS) (h1 : m.wholeText = false) (h2 : m.mustAdvance = false) : m.exec = ({ m with seen := m.seen.add (m.word 0), handed := m.pos } : M).say true := by
  unfold M.exec; rw [h]
  show (if (m.outermost && (m.wholeText && _ || m.mustAdvance && _)) = true then _ else _) = _
  rw [if_neg (by rw [h1, h2]; simp)]
theorem lit_width {code : Array Nat} {pc : Nat} (h0 : code.getD pc 0 = 16) : Sre.itemWidth code pc = 2 := by
  unfold Sre.itemWidth; rw [h0]; rfl
theorem st_at1 (hpc : pc < code.size) (h0 : code.getD pc 0 = 6) (h1 : code.getD (pc + 1) 0 = 1) :
    ∃ sn', (mkM code T start pc pos handed om fr wt none sn).step = if (pos == 0 || T.getD (pos - 1) 0 == 10) = true then mkM code T start (pc + 2) pos handed om fr wt none sn' else mkM code T start pc pos handed om fr wt (some false) sn' :=
  ⟨_, (step_exec hpc).trans (exec_at (one_word h0 rfl) h1 rfl)⟩
theorem st_lit_end (hpc : pc < code.size) (h0 : code.getD pc 0 = 16) (hp : T.size ≤ pos) :
    ∃ sn', (mkM code T start pc pos handed om fr wt none sn).step = mkM code T start pc pos handed om fr wt (some false) sn' :=
  ⟨_, (step_exec hpc).trans (exec_lit_end (one_word h0 rfl) hp)⟩
theorem st_lit {c : Nat} (hpc : pc < code.size) (h0 : code.getD pc 0 = 16) (h1 : code.getD (pc + 1) 0 = c) (hp : pos < T.size) :
    ∃ sn', (mkM code T start pc pos handed om fr wt none sn).step = if (T.getD pos 0 == c) = true then mkM code T start (pc + 2) (pos + 1) handed om fr wt none sn' else mkM code T start pc pos handed om fr wt (some false) sn' := by
  subst h1
  refine ⟨sn.add (code.getD pc 0), (step_exec hpc).trans ((exec_lit (one_word h0 rfl) hp).trans ?_)⟩
  show (if _ then mkM code T start (pc + Sre.itemWidth code pc) (pos + 1) handed om fr wt none (sn.add (code.getD pc 0)) else _) = _
  rw [lit_width h0]
  rfl
theorem st_jump {d : Nat} (hpc : pc < code.size) (h0 : code.getD pc 0 = 15) (h1 : code.getD (pc + 1) 0 = d) :
    ∃ sn', (mkM code T start pc pos handed om fr wt none sn).step = mkM code T start (pc + 1 + d) pos handed om fr wt none sn' := by
  subst h1
  exact ⟨_, (step_exec hpc).trans (exec_jump (one_word h0 rfl))⟩
theorem st_success (hpc : pc < code.size) (h0 : code.getD pc 0 = 1) :
    ∃ sn', (mkM code T start pc pos handed om fr wt none sn).step = mkM code T start pc pos pos om fr wt (some true) sn' :=
  ⟨_, (step_exec hpc).trans (exec_success (one_word h0 rfl) rfl rfl)⟩
/-- the last answer -/
def isEnd (start handed : Nat) : M → Prop := fun m => m.outcome = some .matched ∧ m.start = start ∧ m.handed = handed
def isFail : M → Prop := fun m => m.outcome = some .failed
theorem st_matched : ∃ m', (mkM code T start pc pos handed om [] wt (some true) sn).step = m' ∧ isEnd start handed m' := ⟨_, rfl, rfl, rfl, rfl⟩
theorem st_failed : ∃ m', (mkM code T start pc pos handed om [] wt (some false) sn).step = m' ∧ isFail m' := ⟨_, rfl, rfl⟩
abbrev frS (p q : Nat) (o : Bool) : Sre.Frame := { wait := .nextStart, pc := p, pos := q, outermost := o }
theorem st_start_yes {p q : Nat} {o : Bool} : (mkM code T start pc pos handed om [frS p q o] wt (some true) sn).step = mkM code T start p q handed o [] (wt - 1) (some true) sn := rfl
theorem st_start_last {p q : Nat} {o : Bool} (hq : T.size ≤ q) : (mkM code T start pc pos handed om [frS p q o] wt (some false) sn).step = mkM code T start p q handed o [] (wt - 1) (some false) sn := by
  simp only [M.step, Option.isSome_none, Bool.false_eq_true, if_false, M.resume]
  rw [if_neg (by omega)]
  rfl
theorem attemptAt_is {s : Nat} {first : Bool} (hw : wt ≤ 100) : (mkM code T start pc pos handed om [] wt none sn).attemptAt s first = mkM code T s pc s s first [frS pc s first] (wt + 1) none sn := by
  simp only [M.attemptAt, M.attempt]
  rw [if_neg (by show ¬ (wt + 1 + 0 > 16777216); omega)]
  rfl
end

/-- where a search from s ends -/
def Ends (m : M) (s : Nat) (hit : Nat → Option Nat) (N : Nat) : Prop :=
  (∃ e h, s ≤ e ∧ hit e = some h ∧ (∀ j, s ≤ j → j < e → hit j = none) ∧ ∃ k m', Goes m k m' ∧ k ≤ N ∧ isEnd e h m') ∨
  ((∀ j, s ≤ j → hit j = none) ∧ ∃ k m', Goes m k m' ∧ k ≤ N ∧ isFail m')

def hit1 (T : Array Nat) (j : Nat) : Option Nat := if j < T.size ∧ (j = 0 ∨ T.getD (j - 1) 0 = 10) ∧ T.getD j 0 = 46 then some (j + 1) else none

theorem Ends.stepE {m : M} {f : Sre.Seen → M} {s N : Nat} {hit : Nat → Option Nat} (h : ∃ sn, m.step = f sn) (g : ∀ sn, Ends (f sn) s hit N) : Ends m s hit (N + 1) := by
  obtain ⟨sn, e⟩ := h
  rcases g sn with ⟨a, b, h1, h2, h3, k, m', g', hk, hp⟩ | ⟨h1, k, m', g', hk, hp⟩
  · exact .inl ⟨a, b, h1, h2, h3, k + 1, m', g'.step e, by omega, hp⟩
  · exact .inr ⟨h1, k + 1, m', g'.step e, by omega, hp⟩
theorem Ends.step {m m1 : M} {s N : Nat} {hit : Nat → Option Nat} (h : m.step = m1) (g : Ends m1 s hit N) : Ends m s hit (N + 1) := Ends.stepE (f := fun _ => m1) ⟨{}, h⟩ fun _ => g
theorem Ends.mono {m : M} {s N N' : Nat} {hit : Nat → Option Nat} (g : Ends m s hit N) (h : N ≤ N') : Ends m s hit N' := by
  rcases g with ⟨a, b, h1, h2, h3, k, m', g', hk, hp⟩ | ⟨h1, k, m', g', hk, hp⟩
  · exact .inl ⟨a, b, h1, h2, h3, k, m', g', by omega, hp⟩
  · exact .inr ⟨h1, k, m', g', by omega, hp⟩
theorem Ends.next {m : M} {s N : Nat} {hit : Nat → Option Nat} (hs : hit s = none) (g : Ends m (s + 1) hit N) : Ends m s hit N := by
  rcases g with ⟨a, b, h1, h2, h3, r⟩ | ⟨h1, r⟩
  · refine .inl ⟨a, b, by omega, h2, fun j hj hja => ?_, r⟩
    rcases Nat.lt_or_ge s j with q | q
    · exact h3 j q hja
    · rw [show j = s by omega]; exact hs
  · refine .inr ⟨fun j hj => ?_, r⟩
    rcases Nat.lt_or_ge s j with q | q
    · exact h1 j q
    · rw [show j = s by omega]; exact hs
theorem Ends.hitE {m : M} {s h N : Nat} {hit : Nat → Option Nat} (hs : hit s = some h) (g : ∃ k m', Goes m k m' ∧ k ≤ N ∧ isEnd s h m') : Ends m s hit N := .inl ⟨s, h, Nat.le_refl _, hs, fun j h1 h2 => by omega, g⟩

theorem resume_start {code T : Array Nat} {start pc pos handed : Nat} {om : Bool} {wt p q : Nat} {o : Bool} {sn : Sre.Seen} (hq : q < T.size) (hc : code.getD 0 0 = 14) (hf : code.getD 2 0 = 0) (hw : wt ≤ 100) :
    (mkM code T start pc pos handed om [frS p q o] wt (some false) sn).step = mkM code T (q + 1) p (q + 1) (q + 1) false [frS p (q + 1) false] (wt - 1 + 1) none sn := by
  simp only [M.step, Option.isSome_none, Bool.false_eq_true, if_false, M.resume]
  rw [if_pos (by simpa using hq)]
  have hfs : ∀ m : M, m.code = code → m.hasFirstSet = false := fun m e => by
    unfold M.hasFirstSet; rw [e, hc, hf]; rfl
  unfold M.attemptFrom
  rw [hfs _ rfl]
  exact attemptAt_is (start := start) (pc := p) (pos := q) (handed := handed) (om := o) (by omega : wt - 1 ≤ 100)

theorem run1 (T : Array Nat) : ∀ (d s : Nat) (om : Bool) (sn : Sre.Seen), T.size - s = d → s ≤ T.size → Ends (mkM code1 T s 5 s s om [frS 5 s om] 1 none sn) s (hit1 T) (6 * d + 6)
  | d, s, om, sn, hd, hs => by
    have fail : hit1 T s = none → ∀ {pc pos handed : Nat} {om' : Bool} {sn' : Sre.Seen}, Ends (mkM code1 T s pc pos handed om' [frS 5 s om] 1 (some false) sn') s (hit1 T) (6 * d + 3) := fun hn {pc pos handed om' sn'} => by
      rcases Nat.lt_or_ge s T.size with q | q
      · obtain ⟨d, rfl⟩ : ∃ d', d = d' + 1 := ⟨d - 1, by omega⟩
        exact ((Ends.step (resume_start q rfl rfl (by decide)) ((run1 T d (s + 1) false sn' (by omega) (by omega)).next hn))).mono (by omega)
      · refine ((Ends.step (st_start_last q) (N := 1) (.inr ⟨fun j hj => ?_, ?_⟩))).mono (by omega)
        · unfold hit1; rw [if_neg (by omega)]
        · obtain ⟨m', e, f⟩ := st_failed (code := code1) (T := T) (start := s) (pc := 5) (pos := s) (handed := handed) (om := om) (wt := 0) (sn := sn')
          exact ⟨1, m', Goes.step e (.refl _), Nat.le_refl _, f⟩
    refine (Ends.stepE (st_at1 (by decide) rfl rfl) (N := 6 * d + 5) fun sn1 => ?_).mono (by omega)
    by_cases hb : (s == 0 || T.getD (s - 1) 0 == 10) = true
    · rw [if_pos hb]
      rcases Nat.lt_or_ge s T.size with q | q
      · refine (Ends.stepE (st_lit (c := 46) (by decide) rfl rfl q) (N := 6 * d + 4) fun sn2 => ?_)
        by_cases hc : (T.getD s 0 == 46) = true
        · rw [if_pos hc]
          refine Ends.hitE (h := s + 1) ?_ ?_
          · unfold hit1
            simp only [Bool.or_eq_true, beq_iff_eq] at hb hc
            rw [if_pos ⟨q, hb, hc⟩]
          · obtain ⟨sn3, e3⟩ := st_success (code := code1) (T := T) (start := s) (pc := 9) (pos := s + 1) (handed := s) (om := om) (fr := [frS 5 s om]) (wt := 1) (sn := sn2) (by decide) rfl
            obtain ⟨m', e, f⟩ := st_matched (code := code1) (T := T) (start := s) (pc := 5) (pos := s) (handed := s + 1) (om := om) (wt := 0) (sn := sn3)
            exact ⟨3, m', (((Goes.refl _).step e).step st_start_yes).step e3, by omega, f⟩
        · rw [if_neg hc]
          refine (fail ?_).mono (by omega)
          unfold hit1
          simp only [beq_iff_eq] at hc
          rw [if_neg (fun h => hc h.2.2)]
      · refine (Ends.stepE (st_lit_end (by decide) rfl q) (N := 6 * d + 4) fun sn2 => (fail ?_).mono (by omega))
        unfold hit1; rw [if_neg (by omega)]
    · rw [if_neg hb]
      refine (fail ?_).mono (by omega)
      unfold hit1
      simp only [Bool.or_eq_true, beq_iff_eq] at hb
      rw [if_neg (fun h => hb h.2.1)]
termination_by d => d

theorem ends_fail {m : M} {s N : Nat} {hit : Nat → Option Nat} (ha : m.answer = some false) (hf : m.frames = []) (ho : m.outcome = none) (h : ∀ j, s ≤ j → hit j = none) (hN : 1 ≤ N) : Ends m s hit N := by
  refine .inr ⟨h, 1, _, Goes.step rfl (.refl _), hN, ?_⟩
  unfold isFail M.step
  rw [ho, ha, hf]
  rfl
theorem search1 (T : Array Nat) (s : Nat) (hs : s ≤ T.size) : Ends (Sre.forSearch code1 T 0 s T.size false) s (hit1 T) (6 * T.size + 6) := by
  unfold Sre.forSearch
  rw [show Sre.header code1 = (1, 5) from rfl]
  simp only
  split
  · rename_i h
    refine ends_fail rfl rfl rfl (N := 6 * T.size + 6) (fun j hj => ?_) (by omega)
    simp at h
    unfold hit1; rw [if_neg (by omega)]
  · have hfs : ∀ m : M, m.code = code1 → m.hasFirstSet = false := fun m e => by unfold M.hasFirstSet; rw [e]; rfl
    unfold M.attemptFrom
    rw [hfs _ rfl]
    refine Ends.mono ?_ (show 6 * (T.size - s) + 6 ≤ 6 * T.size + 6 by omega)
    have := attemptAt_is (code := code1) (T := T) (start := s) (pc := 5) (pos := s) (handed := s) (om := true) (wt := 0) (sn := ({} : Sre.Seen).add 14) (s := s) (first := true) (by decide)
    have r := run1 T _ s true (({} : Sre.Seen).add 14) rfl hs
    rw [← this] at r
    exact r
end Mine
end

section
open PySem PySem.W PyProof.Rows PySem.Calls
open PySem.Sre (M)
set_option maxHeartbeats 4000000
namespace Mine

abbrev frB (p q : Nat) (o : Bool) : Sre.Frame := { wait := .nextBranch, pc := p, pos := q, outermost := o }
abbrev frN (p q : Nat) (o : Bool) : Sre.Frame := { wait := .lookNot, pc := p, pos := q, outermost := o }
section
variable {code T : Array Nat} {start pc pos handed : Nat} {om : Bool} {fr : List Sre.Frame} {wt : Nat} {sn : Sre.Seen}
theorem exec_branch {m : M} (h : Sre.ops[m.word 0]? = some .BRANCH) : m.exec = ({ m with seen := m.seen.add (m.word 0) } : M).alternative (m.pc + 1) (({ m with seen := m.seen.add (m.word 0) } : M).keep m.inner.isSome) := by
  unfold M.exec; rw [h]
theorem st_branch (hpc : pc < code.size) (h0 : code.getD pc 0 = 7) (h1 : (code.getD (pc + 1) 0 == 0) = false) (hw : wt ≤ 100) :
    ∃ sn', (mkM code T start pc pos handed om fr wt none sn).step = mkM code T start (pc + 1 + 1) pos pos om (frB (pc + 1) pos om :: fr) (wt + 1) none sn' := by
  refine ⟨sn.add (code.getD (pc + 0) 0), (step_exec hpc).trans ((exec_branch (one_word h0 rfl)).trans ?_)⟩
  simp only [M.alternative, h1, Bool.false_eq_true, if_false, M.attempt]
  rw [if_neg (by show ¬ (wt + 1 + 0 > 16777216); omega)]
  rfl
theorem st_branch_yes {p q : Nat} {o : Bool} : (mkM code T start pc pos handed om (frB p q o :: fr) wt (some true) sn).step = mkM code T start p q handed o fr (wt - 1) (some true) sn := rfl
theorem st_branch_no {p q d : Nat} {o : Bool} (h0 : code.getD p 0 = d) (h1 : (code.getD (p + d) 0 == 0) = false) (hw : wt ≤ 100) :
    (mkM code T start pc pos handed om (frB p q o :: fr) wt (some false) sn).step = mkM code T start (p + d + 1) q q o (frB (p + d) q o :: fr) (wt - 1 + 1) none sn := by
  subst h0
  simp only [M.step, Option.isSome_none, Bool.false_eq_true, if_false, M.resume, M.alternative, M.putBack, h1, M.attempt]
  rw [if_neg (by show ¬ (wt - (1 + 0) + 1 + 0 > 16777216); omega)]
  rfl
theorem exec_assertnot {m : M} (h : Sre.ops[m.word 0]? = some .ASSERT_NOT) (h2 : ¬ m.pos < m.word 2) :
    m.exec = ({ m with seen := m.seen.add (m.word 0) } : M).attempt { ({ m with seen := m.seen.add (m.word 0) } : M).frame .lookNot with kept := ({ m with seen := m.seen.add (m.word 0) } : M).keep m.inner.isSome } (m.pc + 3) (m.pos - m.word 2) false := by
  unfold M.exec; rw [h]
  show (if m.pos < m.word 2 then _ else _) = _
  rw [if_neg h2]
  rfl
theorem st_assertnot (hpc : pc < code.size) (h0 : code.getD pc 0 = 5) (h2 : code.getD (pc + 2) 0 = 0) (hw : wt ≤ 100) :
    ∃ sn', (mkM code T start pc pos handed om fr wt none sn).step = mkM code T start (pc + 3) pos pos false (frN pc pos om :: fr) (wt + 1) none sn' := by
  refine ⟨sn.add (code.getD (pc + 0) 0), (step_exec hpc).trans ((exec_assertnot (one_word h0 rfl) (by show ¬ pos < code.getD (pc + 2) 0; rw [h2]; omega)).trans ?_)⟩
  show M.attempt _ _ _ (pos - code.getD (pc + 2) 0) _ = _
  rw [h2]
  simp only [M.attempt, Nat.sub_zero]
  rw [if_neg (by show ¬ (wt + 1 + 0 > 16777216); omega)]
  rfl
theorem st_not_no {p q d : Nat} {o : Bool} (h1 : code.getD (p + 1) 0 = d) : (mkM code T start pc pos handed om (frN p q o :: fr) wt (some false) sn).step = mkM code T start (p + 1 + d) q handed o fr (wt - 1) none sn := by
  subst h1; rfl
end

def hit2 (T : Array Nat) (j : Nat) : Option Nat :=
  if j < T.size ∧ T.getD j 0 = 13 ∧ j + 1 < T.size ∧ T.getD (j + 1) 0 = 10 then some (j + 2)
  else if j < T.size ∧ (T.getD j 0 = 10 ∨ T.getD j 0 = 13) then some (j + 1) else none

theorem run2 (T : Array Nat) (e : Nat) (om : Bool) (sn : Sre.Seen) (he : e < T.size) (hc : T.getD e 0 = 10 ∨ T.getD e 0 = 13) :
    ∃ h, hit2 T e = some h ∧ ∃ k m', Goes (mkM code2 T e 10 e e om [frS 10 e om] 1 none sn) k m' ∧ k ≤ 30 ∧ isEnd e h m' := by
  -- the end, from a success inside the branch
  have fin : ∀ (p h hd wt : Nat) (sn' : Sre.Seen), hit2 T e = some h → ∃ k m', Goes (mkM code2 T e 35 h hd om [frB p e om, frS 10 e om] wt none sn') k m' ∧ k ≤ 4 ∧ isEnd e h m' := fun p h hd wt sn' hh => by
    obtain ⟨sn3, e3⟩ := st_success (code := code2) (T := T) (start := e) (pc := 35) (pos := h) (handed := hd) (om := om) (fr := [frB p e om, frS 10 e om]) (wt := wt) (sn := sn') (by decide) rfl
    obtain ⟨m', e4, f⟩ := st_matched (code := code2) (T := T) (start := e) (pc := 10) (pos := e) (handed := h) (om := om) (wt := wt - 1 - 1) (sn := sn3)
    exact ⟨4, m', ((((Goes.refl _).step e4).step st_start_yes).step st_branch_yes).step e3, by omega, f⟩
  have nx : ∀ {m : M} {f : Sre.Seen → M} {h N : Nat}, (∃ sn, m.step = f sn) → (∀ sn, ∃ k m', Goes (f sn) k m' ∧ k ≤ N ∧ isEnd e h m') → ∃ k m', Goes m k m' ∧ k ≤ N + 1 ∧ isEnd e h m' := fun {m f h N} ⟨sn, es⟩ g => by
    obtain ⟨k, m', g', hk, hp⟩ := g sn
    exact ⟨k + 1, m', g'.step es, by omega, hp⟩
  have nx1 : ∀ {m m1 : M} {h N : Nat}, m.step = m1 → (∃ k m', Goes m1 k m' ∧ k ≤ N ∧ isEnd e h m') → ∃ k m', Goes m k m' ∧ k ≤ N + 1 ∧ isEnd e h m' := fun es ⟨k, m', g', hk, hp⟩ => ⟨k + 1, m', g'.step es, by omega, hp⟩
  have mono : ∀ {m : M} {h N : Nat}, (∃ k m', Goes m k m' ∧ k ≤ N ∧ isEnd e h m') → N ≤ 30 → ∃ k m', Goes m k m' ∧ k ≤ 30 ∧ isEnd e h m' := fun ⟨k, m', g, hk, hp⟩ hn => ⟨k, m', g, by omega, hp⟩
  by_cases hA : T.getD e 0 = 13 ∧ e + 1 < T.size ∧ T.getD (e + 1) 0 = 10
  · obtain ⟨h13, hlt, h10⟩ := hA
    have hh : hit2 T e = some (e + 2) := by unfold hit2; rw [if_pos ⟨he, h13, hlt, h10⟩]
    refine ⟨e + 2, hh, mono (N := 8) ?_ (by omega)⟩
    refine nx (st_branch (by decide) rfl rfl (by decide)) fun sn1 => ?_
    refine nx (st_lit (c := 13) (by decide) rfl rfl he) fun sn2 => ?_
    rw [if_pos (by rw [h13]; rfl)]
    refine nx (st_lit (c := 10) (by decide) rfl rfl hlt) fun sn3 => ?_
    rw [if_pos (by rw [h10]; rfl)]
    refine nx (st_jump (d := 18) (by decide) rfl rfl) fun sn4 => ?_
    exact fin _ _ _ _ _ hh
  · have hh : hit2 T e = some (e + 1) := by
      unfold hit2
      rw [if_neg (fun h => hA ⟨h.2.1, h.2.2.1, h.2.2.2⟩), if_pos ⟨he, hc⟩]
    refine ⟨e + 1, hh, mono (N := 20) ?_ (by omega)⟩
    refine nx (N := 19) (st_branch (by decide) rfl rfl (by decide)) fun sn1 => ?_
    rcases hc with hc | hc
    · refine nx (N := 18) (st_lit (c := 13) (by decide) rfl rfl he) fun sn2 => ?_
      rw [if_neg (by rw [hc]; decide)]
      refine nx1 (N := 17) (st_branch_no (d := 7) rfl rfl (by decide)) ?_
      refine nx (N := 16) (st_lit (c := 10) (by decide) rfl rfl he) fun sn3 => ?_
      rw [if_pos (by rw [hc]; rfl)]
      refine nx (N := 15) (st_jump (d := 13) (by decide) rfl rfl) fun sn4 => ?_
      obtain ⟨k, m', g, hk, hp⟩ := fin (18) (e + 1) e 2 sn4 hh
      exact ⟨k, m', g, by omega, hp⟩
    · refine nx (N := 18) (st_lit (c := 13) (by decide) rfl rfl he) fun sn2 => ?_
      rw [if_pos (by rw [hc]; rfl)]
      -- LITERAL 10 fails at e + 1, whatever the frame
      have lit10 : ∀ (p hd wt : Nat) (o : Bool) (fr : List Sre.Frame) (sn : Sre.Seen), p < code2.size → code2.getD p 0 = 16 → code2.getD (p + 1) 0 = 10 →
          ∃ sn', (mkM code2 T e p (e + 1) hd o fr wt none sn).step = mkM code2 T e p (e + 1) hd o fr wt (some false) sn' := fun p hd wt o fr sn hp h0 h1 => by
        rcases Nat.lt_or_ge (e + 1) T.size with q | q
        · obtain ⟨sn', es⟩ := st_lit (code := code2) (T := T) (start := e) (handed := hd) (om := o) (fr := fr) (wt := wt) (sn := sn) hp h0 h1 q
          refine ⟨sn', ?_⟩
          rw [es, if_neg]
          intro hx
          exact hA ⟨hc, q, by simpa using hx⟩
        · exact st_lit_end hp h0 q
      refine nx (N := 17) (lit10 14 _ _ _ _ _ (by decide) rfl rfl) fun sn3 => ?_
      refine nx1 (N := 16) (st_branch_no (d := 7) rfl rfl (by decide)) ?_
      refine nx (N := 15) (st_lit (c := 10) (by decide) rfl rfl he) fun sn4 => ?_
      rw [if_neg (by rw [hc]; decide)]
      refine nx1 (N := 14) (st_branch_no (d := 5) rfl rfl (by decide)) ?_
      refine nx (N := 13) (st_lit (c := 13) (by decide) rfl rfl he) fun sn5 => ?_
      rw [if_pos (by rw [hc]; rfl)]
      refine nx (N := 12) (st_assertnot (by decide) rfl rfl (by decide)) fun sn6 => ?_
      refine nx (N := 11) (lit10 29 _ _ _ _ _ (by decide) rfl rfl) fun sn7 => ?_
      refine nx1 (N := 10) (st_not_no (d := 5) rfl) ?_
      refine nx (N := 9) (st_jump (d := 2) (by decide) rfl rfl) fun sn8 => ?_
      obtain ⟨k, m', g, hk, hp⟩ := fin 23 (e + 1) (e + 1) _ sn8 hh
      exact ⟨k, m', g, by omega, hp⟩

theorem inSet2 (c : Nat) (sn : Sre.Seen) : ∃ sn', Sre.inSet code2 c code2.size 5 true sn = .ok (c == 10 || c == 13, sn') := by
  rw [show code2.size = 33 + 1 + 1 + 1 from rfl]
  have h5 : code2.getD (5 + 0) 0 = 16 := rfl
  have h6 : code2.getD (5 + 1) 0 = 10 := rfl
  have h7 : code2.getD (5 + 2 + 0) 0 = 16 := rfl
  have h8 : code2.getD (5 + 2 + 1) 0 = 13 := rfl
  have h9 : code2.getD (5 + 2 + 2 + 0) 0 = 0 := rfl
  by_cases h1 : c = 10
  · subst h1
    exact ⟨_, rfl⟩
  · by_cases h2 : c = 13
    · subst h2
      exact ⟨_, rfl⟩
    · refine ⟨((sn.add 16).add 16).add 0, ?_⟩
      have e1 : (c == 10) = false := by simpa using h1
      have e2 : (c == 13) = false := by simpa using h2
      unfold Sre.inSet
      simp only [h5]
      rw [show Sre.ops[16]? = some .LITERAL from rfl]
      simp only [h6, e1, Bool.false_eq_true, if_false]
      unfold Sre.inSet
      simp only [h7]
      rw [show Sre.ops[16]? = some .LITERAL from rfl]
      simp only [h8, e2, Bool.false_eq_true, if_false]
      unfold Sre.inSet
      simp only [h9]
      rw [show Sre.ops[0]? = some .FAILURE from rfl]
      rfl
theorem admitted2 (T : Array Nat) (m : M) (hc : m.code = code2) (ht : m.text = T) (hl : m.lim = T.size) : ∀ (fuel s : Nat) (sn : Sre.Seen), T.size + 1 - s ≤ fuel →
    (∃ e sn', M.admitted m fuel s sn = .ok (some e, sn') ∧ s ≤ e ∧ e < T.size ∧ (T.getD e 0 = 10 ∨ T.getD e 0 = 13) ∧ ∀ j, s ≤ j → j < e → hit2 T j = none) ∨
    (∃ sn', M.admitted m fuel s sn = .ok (none, sn') ∧ ∀ j, s ≤ j → hit2 T j = none)
  | 0, s, sn, h => .inr ⟨sn, rfl, fun j hj => by unfold hit2; rw [if_neg (by omega), if_neg (by omega)]⟩
  | fuel + 1, s, sn, h => by
    by_cases hs : s ≥ T.size
    · refine .inr ⟨sn, ?_, fun j hj => by unfold hit2; rw [if_neg (by omega), if_neg (by omega)]⟩
      unfold M.admitted
      rw [hl, if_pos hs]
    · obtain ⟨sn', e1⟩ := inSet2 (T.getD s 0) sn
      have ad : M.admitted m (fuel + 1) s sn = (match (T.getD s 0 == 10 || T.getD s 0 == 13) with
        | true => .ok (some s, sn')
        | false => M.admitted m fuel (s + 1) sn') := by
        rw [M.admitted, hl, if_neg hs, hc, ht, e1]
        cases (T.getD s 0 == 10 || T.getD s 0 == 13) <;> rfl
      rw [ad]
      cases hb : (T.getD s 0 == 10 || T.getD s 0 == 13) with
      | true =>
        simp only [Bool.or_eq_true, beq_iff_eq] at hb
        exact .inl ⟨s, sn', rfl, Nat.le_refl _, by omega, hb, fun j h1 h2 => by omega⟩
      | false =>
        simp only [Bool.or_eq_false_iff, beq_eq_false_iff_ne] at hb
        have hn : hit2 T s = none := by unfold hit2; rw [if_neg (fun h => hb.2 h.2.1), if_neg (fun h => h.2.elim hb.1 hb.2)]
        have ex : ∀ {P : Nat → Prop}, P s → (∀ j, s + 1 ≤ j → P j) → ∀ j, s ≤ j → P j := fun p q j hj => by
          rcases Nat.lt_or_ge s j with r | r
          · exact q j r
          · rw [show j = s by omega]; exact p
        rcases admitted2 T m hc ht hl fuel (s + 1) sn' (by omega) with ⟨e, sn2, h1, h2, h3, h4, h5⟩ | ⟨sn2, h1, h2⟩
        · exact .inl ⟨e, sn2, h1, by omega, h3, h4, ex (P := fun j => j < e → hit2 T j = none) (fun _ => hn) h5⟩
        · exact .inr ⟨sn2, h1, ex hn h2⟩

theorem search2 (T : Array Nat) (s : Nat) (hs : s ≤ T.size) : Ends (Sre.forSearch code2 T 0 s T.size false) s (hit2 T) 40 := by
  unfold Sre.forSearch
  rw [show Sre.header code2 = (1, 10) from rfl]
  simp only
  split
  · rename_i h
    refine ends_fail rfl rfl rfl (fun j hj => ?_) (by omega)
    simp at h
    unfold hit2; rw [if_neg (by omega), if_neg (by omega)]
  · unfold M.attemptFrom
    have hfs : ∀ m : M, m.code = code2 → m.hasFirstSet = true := fun m e => by unfold M.hasFirstSet; rw [e]; rfl
    rw [hfs _ rfl]
    simp only [Bool.not_true, Bool.false_eq_true, if_false]
    have ad : ∀ (m : M), m = mkM code2 T s 10 s s true [] 0 none (Sre.Seen.add {} 14) → Ends (match M.admitted m (m.lim + 1 - s) s m.seen with
        | .ok (some s, seen) => M.attemptAt { m with mustAdvance := false, seen } s true
        | .ok (none, seen) => M.say { m with seen } false
        | .error why => m.stick why) s (hit2 T) 40 := by
      rintro m rfl
      rcases admitted2 T (mkM code2 T s 10 s s true [] 0 none (Sre.Seen.add {} 14)) rfl rfl rfl (T.size + 1 - s) s (Sre.Seen.add {} 14) (Nat.le_refl _) with ⟨e, sn', h1, h2, h3, h4, h5⟩ | ⟨sn', h1, h2⟩
      · rw [h1]
        obtain ⟨h, hh, r⟩ := run2 T e true sn' h3 h4
        refine .inl ⟨e, h, h2, hh, h5, ?_⟩
        have := attemptAt_is (code := code2) (T := T) (start := s) (pc := 10) (pos := s) (handed := s) (om := true) (wt := 0) (sn := sn') (s := e) (first := true) (by decide)
        obtain ⟨k, m', g, hk, hp⟩ := r
        rw [← this] at g
        exact ⟨k, m', g, by omega, hp⟩
      · rw [h1]
        exact ends_fail rfl rfl rfl h2 (by omega)
    exact ad _ rfl
end Mine
end

section
open PySem PySem.W PyProof.Rows PySem.Calls
open PySem.Sre (M)
set_option maxHeartbeats 4000000
namespace Mine

section
variable {Mo : Model} {A : Around} {E : Value → Shared → Prop} {s : Shared}
theorem wp_drive {Q : M → Shared → Prop} {m' : M} (ho : m'.outcome.isSome = true) (hQ : Q m' s) : ∀ (turns k : Nat) (m : M), Goes m k m' → k < 4 * turns → wpAny Mo A (Builtin.Re.reDrive turns m) Q E s
  | 0, k, m, g, hk => by omega
  | turns + 1, k, m, g, hk => by
    show wpAny Mo A (if (M.runFor 4 m).outcome.isSome = true then pure (M.runFor 4 m) else do rule "sre.turn"; Builtin.Re.reDrive turns (M.runFor 4 m)) Q E s
    rw [runFor_is]
    by_cases h : (stepN 4 m).outcome.isSome = true
    · rw [if_pos h]
      have e : stepN 4 m = m' := by
        rcases Nat.lt_or_ge 4 k with q | q
        · have : stepN k m = stepN (k - 4) (stepN 4 m) := by rw [← stepN_add]; congr 1; omega
          rw [stepN_done _ h] at this
          exact this.symm.trans g
        · have : stepN 4 m = stepN (4 - k) (stepN k m) := by rw [← stepN_add]; congr 1; omega
          rw [this, show stepN k m = m' from g, stepN_done _ ho]
      rw [e]; exact wpAny_pure hQ
    · rw [if_neg h]
      have q : 4 < k := by
        rcases Nat.lt_or_ge 4 k with q | q
        · exact q
        · exfalso; apply h
          have : stepN 4 m = stepN (4 - k) (stepN k m) := by rw [← stepN_add]; congr 1; omega
          rw [this, show stepN k m = m' from g, stepN_done _ ho]; exact ho
      refine wpAny_bind (wpAny_rule (wp_drive ho hQ turns (k - 4) (stepN 4 m) ?_ (by omega)))
      show stepN (k - 4) (stepN 4 m) = m'
      rw [← stepN_add, show 4 + (k - 4) = k by omega]; exact g
theorem wp_rules {l : List Nat} {b : Nat → Bool} {f : Nat → String} {Q : PUnit → Shared → Prop} (hQ : Q ⟨⟩ s) :
    wpAny Mo A (forIn l PUnit.unit fun i r => if b i = true then do rule (f i); pure (ForInStep.yield PUnit.unit) else pure (ForInStep.yield PUnit.unit)) Q E s := by
  refine wpAny_forIn_list _ (fun _ _ s' => Q ⟨⟩ s') Q (fun x rest u s' hI => ?_) (fun _ _ h => h) l _ hQ
  split
  · exact wpAny_bind (wpAny_rule (wpAny_pure hI))
  · exact wpAny_pure hI
theorem wp_runToEnd {Q : Option M → Shared → Prop} {m m' : M} {k : Nat} (g : Goes m k m') (hk : k ≤ 10000000)
    (h : (m'.outcome = some .matched ∧ Q (some m') s) ∨ (m'.outcome = some .failed ∧ Q none s)) : wpAny Mo A (Builtin.Re.reRunToEnd m) Q E s := by
  have ho : m'.outcome.isSome = true := by rcases h with ⟨h, _⟩ | ⟨h, _⟩ <;> rw [h] <;> rfl
  unfold Builtin.Re.reRunToEnd
  refine wpAny_bind (wp_drive ho ?_ (2 ^ 64) k m g (by omega))
  refine wpAny_bind (wp_rules ?_)
  rcases h with ⟨h, q⟩ | ⟨h, q⟩
  · rw [h]; exact wpAny_pure q
  · rw [h]; exact wpAny_pure q
end

/-- what a pattern does to a text, with what stands in its place -/
def Pat (code : Array Nat) (l R : List Nat) (G : Nat → List Nat) : Prop := ∀ p, p ≤ l.length →
  (∃ e h, p ≤ e ∧ e < h ∧ h ≤ l.length ∧ (∃ k m', Goes (Sre.forSearch code l.toArray 0 p l.toArray.size false) k m' ∧ k ≤ 10000000 ∧ isEnd e h m') ∧ G p = (l.drop p).take (e - p) ++ R ++ G h) ∨
  ((∃ k m', Goes (Sre.forSearch code l.toArray 0 p l.toArray.size false) k m' ∧ k ≤ 10000000 ∧ isFail m') ∧ G p = l.drop p)

/-- a pattern of the text's own -/
structure PatAt (h : Heap) (pa ca : Addr) (code : Array Nat) : Prop where
  pat : ∃ cl vs dd sl, h.get? pa = some ⟨cl, dd, .fields vs, sl⟩ ∧ vs.getD 2 .none = .int 0 0 ∧ vs.getD 5 .none = .ref ca ∧ vs.getD 6 .none = .int 0 0
  words : ∃ o n ws, h.get? ca = some o ∧ o.data = .seq ws n ∧ ws.map (fun v => (Builtin.Re.reRawOf v).toNat) = code
theorem PatAt.keeps {h h' : Heap} {pa ca : Addr} {code : Array Nat} (p : PatAt h pa ca code) (k : ∀ b o, h.get? b = some o → h'.get? b = some o) : PatAt h' pa ca code :=
  ⟨let ⟨cl, vs, dd, sl, e, r⟩ := p.pat; ⟨cl, vs, dd, sl, k _ _ e, r⟩, let ⟨o, n, ws, e, r⟩ := p.words; ⟨o, n, ws, k _ _ e, r⟩⟩

section
variable {Mo : Model} {A : Around} {E : Value → Shared → Prop} {s : Shared}
theorem wp_whole {pa ca : Addr} {code : Array Nat} {l : List Nat} {t : Tok} {Q : Builtin.Re.ReTarget → Shared → Prop} (p : PatAt s.heap pa ca code)
    (hQ : Q { pattern := .ref pa, string := .str ⟨l.toArray⟩ t, code, text := l.toArray, kind := 0, groups := 0, pos := 0, lim := l.toArray.size } s) :
    wpAny Mo A (Builtin.Re.reWholeTarget (.ref pa) (.str ⟨l.toArray⟩ t)) Q E s := by
  obtain ⟨⟨cl, vs, dd, sl, ho, h2, h5, h6⟩, o, n, ws, hc, hd, hw⟩ := p
  unfold Builtin.Re.reWholeTarget
  refine wpAny_bind (wpAny_fieldsOf ho rfl ?_)
  refine wpAny_bind (wpAny_pure ?_)
  simp only [h6, h5, h2]
  refine wpAny_bind (wpAny_pure ?_)
  unfold Builtin.Re.reRawItems
  refine wpAny_bind (wpAny_bind (wpAny_seqItems hc hd (wpAny_pure ?_)))
  refine wpAny_pure ?_
  have e : ((some ws).getD #[]).map Builtin.Re.reRawOf = ws.map Builtin.Re.reRawOf := rfl
  rw [e]
  have e2 : (ws.map Builtin.Re.reRawOf).map (·.toNat) = code := by rw [← hw, Array.map_map]; rfl
  rw [e2]
  exact hQ
end

theorem extract_is (l : List Nat) (a b : Nat) : (⟨l.toArray.extract a b⟩ : Str) = ⟨((l.drop a).take (b - a)).toArray⟩ := by
  simp [List.extract_eq_take_drop]
theorem joinL_nil : ∀ ls : List (List Nat), joinL [] ls = ls.flatten
  | [] => rfl
  | [x] => by simp [joinL]
  | x :: y :: r => by
    have ih := joinL_nil (y :: r)
    show x ++ [] ++ joinL [] (y :: r) = _
    rw [ih]; simp
theorem strs_done {h : Heap} {vs : List Value} {ls : List (List Nat)} (r : RepFs h vs (ls.map F.str)) (l : List Nat) (t : Tok) : RepFs h (vs ++ [.str ⟨l.toArray⟩ t]) ((ls ++ [l]).map F.str) := by
  rw [List.map_append]; exact r.snoc (.str l t)
theorem keep_strs {h h' : Heap} : ∀ {vs : List Value} {ls : List (List Nat)}, RepFs h vs (ls.map F.str) → RepFs h' vs (ls.map F.str)
  | _, [], r => by cases r; exact .nil
  | _, x :: ls, r => by
    cases r with
    | cons a b => cases a; exact .cons (.str _ _) (keep_strs b)

section
variable {Mo : Model} {A : Around} {E : Value → Shared → Prop} {s : Shared}
theorem wp_push {L : Addr} {vs : List Value} {n : Nat} {x : Value} {Q : Unit → Shared → Prop} (ho : s.heap.get? L = some (listObj vs n)) (hsz : vs.length ≤ 1000000)
    (hQ : ∀ h' n', h'.get? L = some (listObj (vs ++ [x]) n') → Heap.SameBut L s.heap h' → Q () { s with heap := h' }) : wpAny Mo A (updateSeq L (·.push x)) Q E s := by
  refine wpAny_updateSeq ho rfl ?_
  have e : (Obj.mapSeq (·.push x) (listObj vs n)) = listObj (vs ++ [x]) (if (vs.toArray.push x).size == vs.toArray.size then n else n + 1) := by
    show (⟨.type "list", none, .seq (vs.toArray.push x) _, #[]⟩ : Obj) = _
    simp [listObj]
  refine hQ _ (if (vs.toArray.push x).size == vs.toArray.size then n else n + 1) ?_ (Heap.SameBut.update ..)
  have := Heap.get?_update_self (h := s.heap) (a := L) (fun o => Obj.mapSeq (·.push x) o) ho rfl
  rw [← e]
  exact this
theorem wp_slice {l : List Nat} {a b : Nat} {Q : Value → Shared → Prop} (hl : l.length ≤ 100000) (hQ : ∀ t tk, Q (.str ⟨((l.drop a).take (b - a)).toArray⟩ t) { s with toks := tk }) : wpAny Mo A (Builtin.Re.reSlice l.toArray 0 a b) Q E s := by
  show wpAny Mo A (mkStr ⟨l.toArray.extract a b⟩) Q E s
  rw [extract_is]
  refine wpAny_mkStr (hQ _ _) ?_
  rw [sizeLine_eq]
  show ((l.drop a).take (b - a)).toArray.size ≤ _
  simp
  omega
end

section
variable {w : World} {A : Around} {R : Result → Shared → Prop}
theorem re_loop {code : Array Nat} {l rp : List Nat} {G : Nat → List Nat} (P : Pat code l rp G) {pa ca L : Addr} {t tr : Tok} (hl : l.length ≤ 100000) (hG : (G 0).length ≤ 1000000) :
    ∀ (d p : Nat) (s : Shared) (nn : Int) (vs : List Value) (n : Nat) (parts : List (List Nat)), l.length - p = d → p ≤ l.length → PatAt s.heap pa ca code → pa ≠ L → ca ≠ L →
      s.heap.get? L = some (listObj vs n) → RepFs s.heap vs (parts.map F.str) → vs.length ≤ 2 * p → parts.flatten ++ G p = G 0 →
      (∀ h' tk t', (∀ b o, b ≠ L → s.heap.get? b = some o → h'.get? b = some o) → R (.ok (.ret (.str ⟨(G 0).toArray⟩ t'))) { s with heap := h', toks := tk }) →
      codeAny (model PG w) A (.builtin "re.Pattern.sub.loop" ⟨[.ref pa, .str ⟨l.toArray⟩ t, .str ⟨rp.toArray⟩ tr, rawInt 0, rawInt 0, rawInt nn, rawInt p, rawInt p, .bool false, .ref L, .bool false], []⟩) R s := by
  intro d
  induction d using Nat.strongRecOn with
  | ind d ih =>
    intro p s nn vs n parts hd hp hpat hpL hcL ho hR hv hj hQ
    refine codeAny_builtin entry_re_loop ?_
    rw [Around.under_plainId plain_re_loop _]
    show wpAny _ A.in1 (Builtin.Re.reWholeTarget (.ref pa) (.str ⟨l.toArray⟩ t) >>= _) _ _ s
    refine wpAny_bind (wp_whole hpat ?_)
    dsimp only
    refine wpAny_bind (wpAny_of_eq (a := ()) rfl ?_)
    rw [show ((p : Int).toNat) = p from Int.toNat_natCast p]
    refine wpAny_bind ?_
    show wpAny _ A.in1 (Builtin.Re.reRunToEnd (Sre.forSearch code l.toArray 0 p l.toArray.size false)) _ _ s
    -- what is left at the end
    have fin : ∀ (s2 : Shared) (vs2 : List Value) (n2 : Nat) (parts2 : List (List Nat)), (∀ b o, b ≠ L → s.heap.get? b = some o → s2.heap.get? b = some o) → s2.gens = s.gens → s2.drawn = s.drawn → s2.os = s.os →
        s2.heap.get? L = some (listObj vs2 n2) → RepFs s2.heap vs2 (parts2.map F.str) → parts2.flatten = G 0 →
        wpAny (model PG w) A.in1 (do
          let joiner ← Builtin.Re.reSlice l.toArray 0 0 0
          let __do_lift ← seqItems? (Value.ref L)
          if (__do_lift.getD #[]).isEmpty = true then do
              let text ← pure joiner
              if false = true then (do ret (← holding [text] do newTuple [text, ← mkInt nn])) else ret text
            else do
              let text ← call (.builtin (if (0 == 0) = true then "str.join" else "bytes.join")) [joiner, .ref L]
              if false = true then (do ret (← holding [text] do newTuple [text, ← mkInt nn])) else ret text)
          (fun fin s' => match fin with | .done f => R (.ok f) s' | .again c' => c'.quiet = true ∧ codeAny (model PG w) A c' R s') (fun e s' => R (.error e) s') s2 := by
      intro s2 vs2 n2 parts2 hk e1 e2 e3 ho2 hR2 hj2
      refine wpAny_bind (wp_slice hl fun tj tk => ?_)
      refine wpAny_bind (wpAny_seqItems ho2 rfl ?_)
      have cases : vs2 = [] ∨ vs2 ≠ [] := by by_cases h : vs2 = [] <;> simp [h]
      rcases cases with rfl | hne
      · rw [if_pos (show ((some (#[] : Array Value)).getD #[]).isEmpty = true from rfl)]
        refine wpAny_bind (wpAny_pure ?_)
        have : parts2 = [] := by cases parts2 with | nil => rfl | cons a b => cases hR2
        subst this
        have e0 : G 0 = [] := by rw [← hj2]; rfl
        have := hQ s2.heap tk tj hk
        rw [e0] at this
        obtain ⟨h2, g2, d2, t2, o2⟩ := s2
        simp only at e1 e2 e3
        subst e1 e2 e3
        exact wpAny_pure this
      · rw [if_neg (by simp; exact hne)]
        refine wpAny_bind ?_
        obtain ⟨lt, rfl, el⟩ := strs_of hR2
        have hl2 : ({ s2 with toks := tk } : Shared).heap.IsList L (strValues lt).toArray := ⟨_, ho2, rfl, n2, rfl⟩
        refine PySem.SC.join hl2 el (join_ok [] parts2 ?_) fun t' k => ?_
        · have : (parts2.map fun x => x.length + ([] : List Nat).length).sum = parts2.flatten.length := by
            rw [List.length_flatten]; rfl
          rw [this, hj2]; exact hG
        · rw [join_is, show List.take (0 - 0) (List.drop 0 l) = ([] : List Nat) from rfl, joinL_nil, hj2]
          have := hQ s2.heap k t' hk
          obtain ⟨h2, g2, d2, t2, o2⟩ := s2
          simp only at e1 e2 e3
          subst e1 e2 e3
          exact wpAny_pure this
    have len2 : ∀ {n : Nat}, n ≤ 2 * p + 10 → n ≤ 1000000 := fun h => by omega
    rcases P p hp with ⟨e, h, hpe, heh, hhl, ⟨k, m', g, hk, hout, hst, hhd⟩, hGp⟩ | ⟨⟨k, m', g, hk, hout⟩, hGp⟩
    · refine wp_runToEnd g hk (.inl ⟨hout, ?_⟩)
      dsimp only
      rw [hst, hhd]
      -- behind the pieces: the item, and again
      have more : ∀ (s2 : Shared) (vs2 : List Value) (n2 : Nat) (parts2 : List (List Nat)), (∀ b o, b ≠ L → s.heap.get? b = some o → s2.heap.get? b = some o) → s2.gens = s.gens → s2.drawn = s.drawn → s2.os = s.os →
          s2.heap.get? L = some (listObj vs2 n2) → RepFs s2.heap vs2 (parts2.map F.str) → vs2.length ≤ 2 * p + 1 → parts2.flatten ++ rp ++ G h = G 0 →
          wpAny (model PG w) A.in1 (updateSeq L (fun x => x.push (.str ⟨rp.toArray⟩ tr)) >>= fun _ => again (.builtin "re.Pattern.sub.loop" ⟨[.ref pa, .str ⟨l.toArray⟩ t, .str ⟨rp.toArray⟩ tr, rawInt 0, rawInt 0, rawInt (nn + 1), rawInt h, rawInt h, .bool (h == e), .ref L, .bool false], []⟩))
            (fun fin s' => match fin with | .done f => R (.ok f) s' | .again c' => c'.quiet = true ∧ codeAny (model PG w) A c' R s') (fun e s' => R (.error e) s') s2 := by
        intro s2 vs2 n2 parts2 hk2 e1 e2 e3 ho2 hR2 hv2 hj2
        refine wpAny_bind (wp_push ho2 (len2 (by omega)) fun h3 n3 ho3 hs3 => ?_)
        have kk : ∀ b o, b ≠ L → s.heap.get? b = some o → h3.get? b = some o := fun b o hb eb => hs3.extBut b o hb (hk2 b o hb eb)
        refine wpAny_pure ⟨plainId_quiet plain_re_loop _, ?_⟩
        rw [show (h == e) = false by simpa using (by omega : h ≠ e)]
        have pat3 : PatAt h3 pa ca code := by
          obtain ⟨⟨cl, vs, dd, sl, e, r⟩, o, n, ws, e', r'⟩ := hpat
          exact ⟨⟨cl, vs, dd, sl, kk _ _ hpL e, r⟩, o, n, ws, kk _ _ hcL e', r'⟩
        refine ih (l.length - h) (by omega) h { s2 with heap := h3 } (nn + 1) (vs2 ++ [.str ⟨rp.toArray⟩ tr]) n3 (parts2 ++ [rp]) rfl hhl pat3 hpL hcL ho3 (keep_strs (strs_done hR2 rp tr)) (by rw [List.length_append]; simp; omega) (by simpa using hj2) ?_
        intro h4 tk4 t4 hk4
        have := hQ h4 tk4 t4 fun b o hb eb => hk4 b o hb (kk b o hb eb)
        obtain ⟨h2, g2, d2, t2, o2⟩ := s2
        simp only at e1 e2 e3
        subst e1 e2 e3
        exact this
      rw [List.append_assoc] at hGp
      by_cases hlt : p < e
      · rw [if_pos hlt]
        refine wpAny_bind (wp_slice hl fun t1 tk1 => ?_)
        refine wpAny_bind (wp_push (s := { s with toks := tk1 }) ho (len2 (by omega)) fun h2 n2 ho2 hs2 => ?_)
        exact more { s with heap := h2, toks := tk1 } _ n2 (parts ++ [(l.drop p).take (e - p)]) (fun b o hb eb => hs2.extBut b o hb eb) rfl rfl rfl ho2 (keep_strs (strs_done hR _ t1)) (by rw [List.length_append]; simp; omega) (by rw [← hj, hGp]; simp)
      · rw [if_neg hlt]
        have : e - p = 0 := by omega
        rw [this] at hGp
        exact more s vs n parts (fun _ _ _ e => e) rfl rfl rfl ho hR (by omega) (by rw [← hj, hGp]; simp)
    · refine wp_runToEnd g hk (.inr ⟨hout, ?_⟩)
      dsimp only
      by_cases hlt : p < l.toArray.size
      · rw [if_pos hlt]
        refine wpAny_bind (wp_slice hl fun t1 tk1 => ?_)
        refine wpAny_bind (wp_push (s := { s with toks := tk1 }) ho (len2 (by omega)) fun h2 n2 ho2 hs2 => ?_)
        refine fin { s with heap := h2, toks := tk1 } _ n2 (parts ++ [(l.drop p).take (l.toArray.size - p)]) (fun b o hb eb => hs2.extBut b o hb eb) rfl rfl rfl ho2 (keep_strs (strs_done hR _ t1)) ?_
        rw [← hj, hGp, List.flatten_append]
        simp only [List.flatten_cons, List.flatten_nil, List.append_nil]
        rw [List.take_of_length_le (by simp)]
      · rw [if_neg hlt]
        refine fin s vs n parts (fun _ _ _ e => e) rfl rfl rfl ho hR ?_
        rw [← hj, hGp, List.drop_of_length_le (by simpa using hlt)]; simp
end

/-- PATTERN.sub(text, text) -/
theorem call_sub {w : World} {A : Around} {s : Shared} {code : Array Nat} {l rp : List Nat} {G : Nat → List Nat} (P : Pat code l rp G) {pa ca : Addr} {t tr : Tok} {Q : Value → Shared → Prop} (hl : l.length ≤ 100000) (hG : (G 0).length ≤ 1000000)
    (hlit : rp.contains 92 = false) (hp : PatAt s.heap pa ca code) (hT : s.TypeIs (.ref pa) "re.Pattern")
    (hQ : ∀ h' tk t', (∀ b o, s.heap.get? b = some o → h'.get? b = some o) → Q (.str ⟨(G 0).toArray⟩ t') { s with heap := h', toks := tk }) :
    wpAny (model PG w) A (call (.builtin "re.Pattern.sub") [.ref pa, .str ⟨rp.toArray⟩ tr, .str ⟨l.toArray⟩ t]) Q NoE s := by
  refine wpAny_call (codeAny_call_builtin (by decide +kernel) entry_re_sub (slot_re_sub.check _ _ _ _ _ _ _ _ hT (args_re_sub _ _ _) ?_))
  show wpAny _ A.in1 (Builtin.Re.reSubstitute "re.Pattern.sub" "sub" false ⟨[.ref pa, .str ⟨rp.toArray⟩ tr, .str ⟨l.toArray⟩ t], []⟩) _ _ s
  unfold Builtin.Re.reSubstitute
  dsimp only
  refine wpAny_bind (wpAny_of_eq (a := [some (.str ⟨rp.toArray⟩ tr), some (.str ⟨l.toArray⟩ t), none]) rfl ?_)
  dsimp only
  refine wpAny_bind (wpAny_pure ?_)
  refine wpAny_bind (wpAny_specialOf (typeIs_str _ _ _) nocall_str ?_)
  dsimp only [Option.isSome_none]
  simp only [Bool.false_eq_true, if_false]
  refine wpAny_bind (wpAny_of_eq (a := some ⟨rp.toArray⟩) rfl ?_)
  dsimp only
  refine wpAny_bind (wpAny_pure ?_)
  rw [show (!(rp.toArray.contains 92)) = true by simpa using hlit]
  simp only [if_true]
  refine wpAny_bind (wpAny_pure ?_)
  dsimp only
  refine wpAny_bind (wpAny_holding (wp_whole hp ?_))
  rw [if_neg (by decide)]
  refine wpAny_bind (wpAny_newList ?_)
  refine wpAny_pure ⟨plainId_quiet plain_re_loop _, ?_⟩
  have hne : ∀ {b : Addr} {o : Obj}, s.heap.get? b = some o → b ≠ s.heap.objs.size := fun e => Nat.ne_of_lt (Heap.lt_size e)
  have hpp := hp
  obtain ⟨⟨cl, vs, dd, sl, e, r⟩, o, n, ws, e', r'⟩ := hpp
  refine re_loop P hl hG l.length 0 { s with heap := s.heap.push { cls := .type "list", data := .seq ([] : List Value).toArray } } 0 [] 0 [] (by omega) (Nat.zero_le _) (hp.keeps fun _ _ e => Heap.get?_push_of_some _ e) (hne e) (hne e') (Heap.get?_push_size _ rfl) .nil (Nat.zero_le _) rfl ?_
  intro h' tk t' hk
  exact hQ h' tk t' fun b o eb => hk b o (hne eb) (Heap.get?_push_of_some _ eb)
end Mine
end

section
open PySem PySem.W PyProof.Rows PySem.Calls
open PySem.Sre (M)
set_option maxHeartbeats 4000000
namespace Mine

def dotq : Bool → List Nat → List Nat
  | _, [] => []
  | nl, c :: r => if (nl && c == 46) = true then 46 :: 46 :: dotq false r else c :: dotq (c == 10) r
def crlf : List Nat → List Nat
  | [] => []
  | [c] => if (c == 13 || c == 10) = true then [13, 10] else [c]
  | c :: d :: r => if (c == 13 && d == 10) = true then 13 :: 10 :: crlf r else if (c == 13 || c == 10) = true then 13 :: 10 :: crlf (d :: r) else c :: crlf (d :: r)
def quoteL (l : List Nat) : List Nat := dotq true (crlf l)

theorem dotq_len : ∀ (l : List Nat) (b : Bool), (dotq b l).length ≤ 2 * l.length
  | [], _ => Nat.zero_le _
  | c :: r, b => by
    unfold dotq
    split
    · have := dotq_len r false; simp; omega
    · have := dotq_len r (c == 10); simp; omega
theorem crlf_len : ∀ (l : List Nat), (crlf l).length ≤ 2 * l.length
  | [] => Nat.zero_le _
  | [c] => by unfold crlf; split <;> simp
  | c :: d :: r => by
    have h1 := crlf_len r
    have h2 := crlf_len (d :: r)
    unfold crlf
    split
    · simp; omega
    · split <;> simp at h2 ⊢ <;> omega

theorem pat_of {code : Array Nat} {l R : List Nat} {G : Nat → List Nat} {hit : Nat → Option Nat} {N : Nat} (hN : N ≤ 10000000)
    (h0 : ∀ p, p < l.length → hit p = none → G p = l.getD p 0 :: G (p + 1)) (hend : G l.length = []) (hhit : ∀ p h, hit p = some h → p < l.length ∧ p < h ∧ h ≤ l.length ∧ G p = R ++ G h)
    (ends : ∀ p, p ≤ l.length → Ends (Sre.forSearch code l.toArray 0 p l.toArray.size false) p hit N) : Pat code l R G := fun p hp => by
  have go : ∀ (d p e : Nat), e - p = d → p ≤ e → e ≤ l.length → (∀ j, p ≤ j → j < e → hit j = none) → G p = (l.drop p).take (e - p) ++ G e := by
    intro d
    induction d with
    | zero =>
      intro p e hd hpe he hn
      rw [hd, show p = e by omega]; simp
    | succ d ih =>
      intro p e hd hpe he hn
      have hlt : p < l.length := by omega
      rw [h0 p hlt (hn p (Nat.le_refl _) (by omega)), ih (p + 1) e (by omega) (by omega) he (fun j h1 h2 => hn j (by omega) h2), hd, show e - (p + 1) = d by omega]
      rw [List.drop_eq_getElem_cons hlt, List.take_succ_cons]
      simp [List.getD, List.getElem?_eq_getElem hlt]
  rcases ends p hp with ⟨e, h, h1, h2, h3, k, m', g, hk, he⟩ | ⟨h1, k, m', g, hk, he⟩
  · obtain ⟨q1, q2, q3, q4⟩ := hhit e h h2
    refine .inl ⟨e, h, h1, q2, q3, ⟨k, m', g, by omega, he⟩, ?_⟩
    rw [go _ p e rfl h1 (by omega) h3, q4, List.append_assoc]
  · refine .inr ⟨⟨k, m', g, by omega, he⟩, ?_⟩
    rw [go _ p l.length rfl hp (Nat.le_refl _) (fun j hj _ => h1 j hj), hend, List.append_nil, List.take_of_length_le (by simp)]

theorem toArray_getD (l : List Nat) (j : Nat) : l.toArray.getD j 0 = l.getD j 0 := by
  simp [Array.getD, List.getD]
  split
  · rename_i h; simp [List.getElem?_eq_getElem h]
  · rename_i h; simp [List.getElem?_eq_none (Nat.le_of_not_lt h)]

def G1 (l : List Nat) (p : Nat) : List Nat := dotq (p == 0 || l.getD (p - 1) 0 == 10) (l.drop p)
def G2 (l : List Nat) (p : Nat) : List Nat := crlf (l.drop p)
theorem drop_getD {l : List Nat} {p : Nat} (h : p < l.length) : l.drop p = l.getD p 0 :: l.drop (p + 1) := by
  rw [List.drop_eq_getElem_cons h]
  simp [List.getD, List.getElem?_eq_getElem h]
theorem G1_next (l : List Nat) (p : Nat) : G1 l (p + 1) = dotq (l.getD p 0 == 10) (l.drop (p + 1)) := rfl
theorem pat1 {l : List Nat} (hl : l.length ≤ 100000) : Pat code1 l [46, 46] (G1 l) := by
  have hsz : l.toArray.size = l.length := by simp
  refine pat_of (hit := hit1 l.toArray) (N := 6 * l.toArray.size + 6) (by rw [hsz]; omega) (fun p hp hn => ?_) ?_ (fun p h hh => ?_) (fun p hp => search1 _ p (by rw [hsz]; exact hp))
  · unfold hit1 at hn
    rw [hsz, toArray_getD, toArray_getD] at hn
    split at hn
    · cases hn
    · rename_i hc
      rw [G1_next]
      unfold G1
      rw [drop_getD hp, dotq, if_neg]
      intro hx
      simp only [Bool.and_eq_true, Bool.or_eq_true, beq_iff_eq] at hx
      exact hc ⟨hp, hx.1, hx.2⟩
  · unfold G1; rw [List.drop_of_length_le (Nat.le_refl _)]; rfl
  · unfold hit1 at hh
    rw [hsz, toArray_getD, toArray_getD] at hh
    split at hh
    · rename_i hc
      cases hh
      refine ⟨hc.1, Nat.lt_succ_self _, hc.1, ?_⟩
      rw [G1_next]
      unfold G1
      rw [drop_getD hc.1, dotq, if_pos (by simp only [Bool.and_eq_true, Bool.or_eq_true, beq_iff_eq]; exact ⟨hc.2.1, hc.2.2⟩), hc.2.2]
      rfl
    · cases hh
theorem crlf_nil1 (c : Nat) : crlf [c] = if (c == 13 || c == 10) = true then [13, 10] else [c] := by simp only [crlf]
theorem crlf_def (c d : Nat) (r : List Nat) : crlf (c :: d :: r) = if (c == 13 && d == 10) = true then 13 :: 10 :: crlf r else if (c == 13 || c == 10) = true then 13 :: 10 :: crlf (d :: r) else c :: crlf (d :: r) := by rw [crlf]
theorem crlf_cons (c : Nat) (r : List Nat) (h : c ≠ 13 ∧ c ≠ 10) : crlf (c :: r) = c :: crlf r := by
  have h1 : (c == 13) = false := by simpa using h.1
  have h2 : (c == 10) = false := by simpa using h.2
  cases r with
  | nil => rw [crlf_nil1, h1, h2]; rfl
  | cons d r => rw [crlf_def, h1, h2]; simp
theorem crlf_two (r : List Nat) : crlf (13 :: 10 :: r) = 13 :: 10 :: crlf r := by rw [crlf_def]; simp
theorem crlf_one (c : Nat) (r : List Nat) (hc : c = 13 ∨ c = 10) (h : ¬ (c = 13 ∧ ∃ r', r = 10 :: r')) : crlf (c :: r) = 13 :: 10 :: crlf r := by
  have h1 : (c == 13 || c == 10) = true := by simpa using hc
  cases r with
  | nil => rw [crlf_nil1, h1]; rfl
  | cons d r =>
    have h2 : ¬ ((c == 13 && d == 10) = true) := by
      simp only [Bool.and_eq_true, beq_iff_eq]
      rintro ⟨rfl, rfl⟩; exact h ⟨rfl, _, rfl⟩
    rw [crlf_def, if_neg h2, if_pos h1]
theorem pat2 {l : List Nat} (hl : l.length ≤ 100000) : Pat code2 l [13, 10] (G2 l) := by
  have hsz : l.toArray.size = l.length := by simp
  refine pat_of (hit := hit2 l.toArray) (N := 40) (by omega) (fun p hp hn => ?_) ?_ (fun p h hh => ?_) (fun p hp => search2 _ p (by rw [hsz]; exact hp))
  · unfold hit2 at hn
    rw [hsz, toArray_getD, toArray_getD] at hn
    split at hn
    · cases hn
    · split at hn
      · cases hn
      · rename_i h1 h2
        unfold G2
        rw [drop_getD hp]
        exact crlf_cons _ _ ⟨fun e => h2 ⟨hp, .inr e⟩, fun e => h2 ⟨hp, .inl e⟩⟩
  · unfold G2; rw [List.drop_of_length_le (Nat.le_refl _)]; rfl
  · unfold hit2 at hh
    rw [hsz, toArray_getD, toArray_getD] at hh
    split at hh
    · rename_i hc
      cases hh
      refine ⟨hc.1, by omega, by omega, ?_⟩
      unfold G2
      rw [drop_getD hc.1, drop_getD hc.2.2.1, hc.2.1, hc.2.2.2]
      exact crlf_two _
    · split at hh
      · rename_i h1 hc
        cases hh
        refine ⟨hc.1, by omega, by omega, ?_⟩
        unfold G2
        rw [drop_getD hc.1]
        refine crlf_one _ _ hc.2.symm ?_
        rintro ⟨e, r', er⟩
        rcases Nat.lt_or_ge (p + 1) l.length with q | q
        · rw [drop_getD q] at er
          injection er with e1 _
          exact h1 ⟨hc.1, e, q, e1⟩
        · rw [List.drop_of_length_le q] at er; cases er
      · cases hh
theorem G_zero (l : List Nat) : G1 l 0 = dotq true l ∧ G2 l 0 = crlf l := ⟨rfl, rfl⟩

/-- o.sub(e, e') -/
theorem Ev.reSub {c : Cx} {o e e' : Expr} {apos pos : Pos} {pa ca : Addr} {code : Array Nat} {l rp : List Nat} {G : Nat → List Nat} (ho : Ev c o (.val (.ref pa))) (hpa : pa ∉ tabs) (hca : ca ∉ tabs)
    (hK : ∃ vs, c.K.lookup pa = some ⟨.type "re.Pattern", none, .fields vs, #[]⟩ ∧ vs.getD 2 .none = .int 0 0 ∧ vs.getD 5 .none = .ref ca ∧ vs.getD 6 .none = .int 0 0)
    (hC : ∃ ws n, c.K.lookup ca = some ⟨.type "tuple", none, .seq ws n, #[]⟩ ∧ ws.map (fun v => (Builtin.Re.reRawOf v).toNat) = code)
    (P : Pat code l rp G) (h1 : Ev c e (.f (.str rp))) (h2 : Ev c e' (.f (.str l))) (hl : l.length ≤ 100000) (hG : (G 0).length ≤ 1000000) (hlit : rp.contains 92 = false)
    (he : ∀ env, starEach [e, e'] env = [(false, eval e env), (false, eval e' env)]) (hbase : ∀ env, attributeBase o "sub" env (eval o env) = eval o env) (hline : (apos.endLine == pos.line) = true) :
    Ev c (.Call (.Attribute o "sub" apos) [e, e'] [] pos) (.f (.str (G 0))) :=
  Ev.mk fun ok s Q inv h => wpAny_Call_method_lateS (hbase _) (by rw [he]; rfl) hline (ho ok s _ inv fun v0 s0 i0 u0 r0 _ => by
    cases r0
    obtain ⟨vs, hk, k2, k5, k6⟩ := hK
    obtain ⟨ws, n, hc, hw⟩ := hC
    have hT : ∀ s : Shared, c.Inv s → s.TypeIs (.ref pa) "re.Pattern" := fun s i => ⟨_, i.wd.st _ _ hk hpa, rfl⟩
    refine ⟨"re.Pattern", "re.Pattern.sub", plainAttrs_re, slot_re_sub, type_re_sub, hT s0 i0, (fun a e => by cases e; exact ⟨_, i0.wd.st _ _ hk hpa, rfl⟩), ?_⟩
    refine wp_callWith (first := [.ref pa]) (.inl ⟨_, rfl⟩) (by rw [he]; rfl) (fun P hp => by rw [he] at hp ⊢; exact evalArgs_plain hp) (args2 h1 h2 he ok i0 fun v v' s1 i1 u1 r1 r1' => ⟨i1.wd, ?_⟩)
    cases r1; cases r1'
    refine call_sub P hl hG hlit ⟨⟨_, vs, none, #[], i1.wd.st _ _ hk hpa, k2, k5, k6⟩, _, n, ws, i1.wd.st _ _ hc hca, rfl, hw⟩ (hT s1 i1) fun h' tk t' kk => ?_
    exact h _ _ (i1.keeps0 ok kk) ((u0.trans u1).trans (Up.of kk)) (.str _ _) trivial)

/-- what stands of quotedata's patterns at the top -/
structure ReTop (K : Frag) : Prop where
  n1 : gval K "_twin_re_1" = some (.ref 43)
  n2 : gval K "_twin_re_2" = some (.ref 48)
  nc : ∃ t, gval K "CRLF" = some (.str ⟨#[13, 10]⟩ t)
  p1 : ∃ vs, K.lookup 43 = some ⟨.type "re.Pattern", none, .fields vs, #[]⟩ ∧ vs.getD 2 .none = .int 0 0 ∧ vs.getD 5 .none = .ref 42 ∧ vs.getD 6 .none = .int 0 0
  c1 : ∃ ws n, K.lookup 42 = some ⟨.type "tuple", none, .seq ws n, #[]⟩ ∧ ws.map (fun v => (Builtin.Re.reRawOf v).toNat) = code1
  p2 : ∃ vs, K.lookup 48 = some ⟨.type "re.Pattern", none, .fields vs, #[]⟩ ∧ vs.getD 2 .none = .int 0 0 ∧ vs.getD 5 .none = .ref 47 ∧ vs.getD 6 .none = .int 0 0
  c2 : ∃ ws n, K.lookup 47 = some ⟨.type "tuple", none, .seq ws n, #[]⟩ ∧ ws.map (fun v => (Builtin.Re.reRawOf v).toNat) = code2

section
variable {w : World} {K : Frag} {k : Nat} {a : Addr} {kl : Bool} {pm cd doc : Value} {t : List Nat}
theorem quotedata (X : ReTop K) (hb : t.length ≤ 20000) : FnSpec w K k (fdOf (stAt 6) "quotedata" pm cd doc) a (bodyS (stAt 6)) kl [("data", .f (.str t))] (.f (.str (quoteL t))) := fun A L B => by
  obtain ⟨tc, hnc⟩ := X.nc
  have l1 := crlf_len t
  have l2 := dotq_len (crlf t) true
  refine SX.ret (S1.ret ?_)
  refine Ev.reSub (G := G1 (crlf t)) (Ev.glob rfl X.n1) (by decide) (by decide) X.p1 X.c1 (pat1 (by omega)) (Ev.cstr (l := [46, 46]) rfl) ?_ (by omega) (by rw [(G_zero _).1]; omega) (by decide) (by intro _; rfl) (by intro _; rfl) rfl
  refine Ev.reSub (G := G2 t) (Ev.glob rfl X.n2) (by decide) (by decide) X.p2 X.c2 (pat2 (by omega)) (Ev.globS rfl hnc (l := [13, 10]) rfl) (Ev.name rfl rfl) (by omega) (by rw [(G_zero _).2]; omega) (by decide) (by intro _; rfl) (by intro _; rfl) rfl
end
end Mine
end

section
open PySem PySem.W PyProof.Rows PySem.Calls
set_option maxHeartbeats 4000000
namespace Mine

def noTabs (K : Frag) : Frag := K.filter fun p => !tabs.contains p.1
theorem noTabs_lookup : ∀ {K : Frag} {a : Addr} {o : Obj}, (noTabs K).lookup a = some o → K.lookup a = some o ∧ a ∉ tabs
  | [], _, _, h => by cases h
  | (b, x) :: r, a, o, h => by
    unfold noTabs at h
    rw [List.filter_cons] at h
    rw [List.lookup_cons]
    split at h
    · rename_i hb
      rw [List.lookup_cons] at h
      cases q : a == b with
      | true =>
        rw [q] at h
        cases h
        rw [beq_iff_eq.mp q]
        exact ⟨rfl, by simpa using hb⟩
      | false => rw [q] at h; exact noTabs_lookup h
    · rename_i hb
      have ih := noTabs_lookup (K := r) h
      cases q : a == b with
      | true =>
        exfalso
        have : a = b := beq_iff_eq.mp q
        subst this
        exact ih.2 (by
          by_cases h96 : a = 96
          · simp [h96]
          · have : a = 103 := by simpa [h96] using hb
            simp [this])
      | false => exact ih
theorem Wd.inK {K : Frag} {s : Shared} (x : Wd K s) : (noTabs K).In s.heap := fun a o e => let ⟨h1, h2⟩ := noTabs_lookup e; x.st a o h1 h2

abbrev pileObj (dx : Addr) (vs : List Value) (n : Nat) : Obj := ⟨.ref 133, some dx, .seq vs.toArray n, #[]⟩
abbrev dicObj (es : Array DictEntry) (m : Nat) : Obj := ⟨.type "dict", none, .dict es m, #[]⟩

/-- what stands of the class at the top -/
structure PileTop (K : Frag) : Prop where
  cls : ∃ cd, clsIn (noTabs K) 133 = some cd ∧ cd.hasDict = true ∧ cd.mro = [.ref 133, .type "list", .type "object"]
  ga : findIn (noTabs K) (.ref 133) "__getattribute__" = some (some (.builtin "list.__getattribute__"))
  gattr : findIn (noTabs K) (.ref 133) "__getattr__" = some none
  isList : mroIn (noTabs K) 133 (.type "list") = some true
  append : findIn (noTabs K) (.ref 133) "append" = some (some (.builtin "list.append"))
  getitem : findIn (noTabs K) (.ref 133) "__getitem__" = some (some (.builtin "list.__getitem__"))
  setitem : findIn (noTabs K) (.ref 133) "__setitem__" = some (some (.builtin "list.__setitem__"))
  iter : findIn (noTabs K) (.ref 133) "__iter__" = some (some (.builtin "list.__iter__"))
  noDeque : mroIn (noTabs K) 133 (.type "collections.deque") = some false
  setattr : findIn (noTabs K) (.ref 133) "__setattr__" = some (some (.builtin "object.__setattr__"))
  isObj : mroIn (noTabs K) 133 (.type "object") = some true
  taker : takerIn (noTabs K) 133 "_initial_size" = some none
  iniAttr : findIn (noTabs K) (.ref 133) "_initial_size" = some none
  d64 : ∃ t n, K.lookup 64 = some ⟨.type "tuple", none, .seq #[.int 0 t] n, #[]⟩
  d80 : ∃ t n, K.lookup 80 = some ⟨.type "tuple", none, .seq #[.int 0 t] n, #[]⟩
  d109 : ∃ n, K.lookup 109 = some ⟨.type "tuple", none, .seq #[.none] n, #[]⟩

section
variable {K : Frag} {M : Model} {A : Around} {E : Value → Shared → Prop} {s : Shared} {x dx : Addr} {vs : List Value} {n : Nat} {name : Str}
theorem pile_type {h : Heap} (hx : h.get? x = some (pileObj dx vs n)) : Looks M h (typeOf (.ref x)) (.ref 133) := (Looks.ld hx).andThen .now
theorem pile_special {h : Heap} {r : Option Value} (X : (noTabs K).In h) (hx : h.get? x = some (pileObj dx vs n)) (e : findIn (noTabs K) (.ref 133) name = some r) : Looks M h (specialOf (.ref x) name) r :=
  (pile_type hx).andThen (looks_findIn X e)
theorem pile_isList {h : Heap} (T : PileTop K) (X : (noTabs K).In h) (hx : h.get? x = some (pileObj dx vs n)) : Looks M h (isInstance (.ref x) (.type "list")) true :=
  (pile_type hx).andThen (looks_mroIn X T.isList)

theorem pile_getMethod {es : Array DictEntry} {m : Nat} {f : Value} {tf : String} {pl : Sem Bool} {Q : Value × List Value → Shared → Prop} (T : PileTop K) (X : (noTabs K).In s.heap) (hx : s.heap.get? x = some (pileObj dx vs n)) (hd : s.heap.get? dx = some (dicObj es m))
    (hk : StrKeys es) (hn : nsFind es name = none) (hf : findIn (noTabs K) (.ref 133) name = some (some f)) (ht : ∀ h, (noTabs K).In h → Looks M h (typeOf f) (.type tf)) (htf : tf = "function" ∨ tf = "method_descriptor")
    (h : Q (f, [.ref x]) s) : wpAny M A (getMethod (.ref x) name pl) Q E s := by
  unfold getMethod
  refine wpAny_bind ((pile_special X hx T.ga).here ?_)
  show wpAny _ _ (if (Manifest.canonical "list.__getattribute__" != "object.__getattribute__") = true then _ else _) _ _ _
  rw [if_neg (by decide +kernel)]
  refine wpAny_bind ((pile_special X hx T.gattr).here ?_)
  simp only [Option.isSome_none, Bool.false_eq_true, if_false]
  refine wpAny_bind ((pile_special X hx hf).here ?_)
  dsimp only
  refine wpAny_bind ((ht _ X).here ?_)
  rw [if_neg (by rcases htf with rfl | rfl <;> decide)]
  try dsimp only
  refine wpAny_bind (wpAny_loadPart hx ?_)
  dsimp only
  have hns : s.heap.Ns dx (fun y => nsFind es y) := ⟨_, es, m, hd, rfl, hk, fun _ => rfl⟩
  refine wpAny_bind (wpAny_nsGet hns ?_)
  rw [hn]
  simp only [Option.isSome_none, Bool.false_eq_true, if_false]
  exact wpAny_bind (wpAny_rule (wpAny_pure h))
end

/-- a built-in method of lists called on the pile -/
theorem check_list {M : Model} {A : Around} {E : Value → Shared → Prop} {s : Shared} {i nm : String} {self : Value} {rest : List Value} {Q : Unit → Shared → Prop}
    (hk : builtinKind i = some .slot ∨ builtinKind i = some .method) (hs : splitId i = some ("list", nm)) (hi : Looks M s.heap (isInstance self (.type "list")) true) (ha : argsOk i ⟨self :: rest, []⟩) (q : Q () s) :
    wpAny M A (checkBuiltinCall i ⟨self :: rest, []⟩) Q E s := by
  rcases hk with hk | hk
  all_goals
    simp only [checkBuiltinCall, hk, hs]
    refine wpAny_bind (hi.here ?_)
    simp only [Bool.not_true, Bool.false_eq_true, if_false]
    cases hsig : Manifest.signature? i with
    | none => exact wpAny_pure q
    | some sig =>
      simp only [argsOk, hsig] at ha
      have h2 : Bind.checkArgs i sig ⟨self :: rest, []⟩ = pure () := ha
      show wpAny M A (Bind.checkArgs i sig ⟨self :: rest, []⟩) Q E s
      rw [h2]; exact wpAny_pure q
section
variable {K : Frag} {w : World} {A : Around} {E : Value → Shared → Prop} {s : Shared} {x dx : Addr} {vs : List Value} {n : Nat} {name : Str}
theorem pile_call {id nm : String} {b : Builtin} {rest : List Value} {Q : Value → Shared → Prop} (hk : builtinKind id = some .slot ∨ builtinKind id = some .method) (hs : splitId id = some ("list", nm)) (hp : plainId id = true) (hb : entryFor table id = some b)
    (hi : Looks (model PG w) s.heap (isInstance (.ref x) (.type "list")) true) (ha : argsOk id ⟨.ref x :: rest, []⟩)
    (hc : wpAny (model PG w) A.in1 (b ⟨.ref x :: rest, []⟩) (fun fin s' => ∃ v, fin = .done (.ret v) ∧ Q v s') E s) : wpAny (model PG w) A (call (.builtin id) (.ref x :: rest)) Q E s :=
  wpAny_call (codeAny_call_builtin hp hb (check_list hk hs hi ha (wpAny_mono hc (fun fin s' h' => by obtain ⟨v, rfl, hv⟩ := h'; exact hv) fun _ _ h' => h')))
theorem pile_callSpecial {id : String} {args : List Value} {Q : Option Value → Shared → Prop} (X : (noTabs K).In s.heap) (hx : s.heap.get? x = some (pileObj dx vs n)) (hf : findIn (noTabs K) (.ref 133) name = some (some (.builtin id)))
    (hb : ∀ self, bindSpecial (.builtin id) self = pure (.builtin id, [self])) (h : wpAny (model PG w) A (call (.builtin id) (.ref x :: args)) (fun v => Q (some v)) E s) : wpAny (model PG w) A (callSpecial? (.ref x) name args) Q E s := by
  unfold callSpecial?
  refine wpAny_bind ((pile_special X hx hf).here ?_)
  dsimp only
  refine wpAny_holding (wpAny_bind ?_)
  rw [hb]
  exact wpAny_pure (wpAny_bind (wpAny_mono h (fun v s' hv => wpAny_pure hv) fun _ _ e => e))

theorem pile_update {f : Array Value → Array Value} {Q : Unit → Shared → Prop} (hx : s.heap.get? x = some (pileObj dx vs n)) (hsz : vs.length ≤ 1000000) (hsz' : (f vs.toArray).size ≤ 1000000)
    (hQ : ∀ h' n', h'.get? x = some (pileObj dx (f vs.toArray).toList n') → Heap.SameBut x s.heap h' → Q () { s with heap := h' }) : wpAny (model PG w) A (updateSeq x f) Q E s := by
  refine wpAny_updateSeq hx rfl ?_ (by rw [sizeLine_eq]; simp; omega) (by rw [sizeLine_eq]; omega)
  have e : (Obj.mapSeq f (pileObj dx vs n)) = pileObj dx (f vs.toArray).toList (if (f vs.toArray).size == vs.toArray.size then n else n + 1) := by
    show (⟨.ref 133, some dx, .seq (f vs.toArray) _, #[]⟩ : Obj) = _
    simp [pileObj]
  refine hQ _ (if (f vs.toArray).size == vs.toArray.size then n else n + 1) ?_ (Heap.SameBut.update ..)
  have := Heap.get?_update_self (h := s.heap) (a := x) (fun o => Obj.mapSeq f o) hx rfl
  rw [← e]
  exact this
theorem pile_append {v : Value} {Q : Value → Shared → Prop} (T : PileTop K) (X : (noTabs K).In s.heap) (hx : s.heap.get? x = some (pileObj dx vs n)) (hsz : vs.length ≤ 100000)
    (hQ : ∀ h' n', h'.get? x = some (pileObj dx (vs ++ [v]) n') → Heap.SameBut x s.heap h' → Q .none { s with heap := h' }) : wpAny (model PG w) A (call (.builtin "list.append") [.ref x, v]) Q E s := by
  refine pile_call (.inr (by decide +kernel)) (nm := "append") (by decide +kernel) (by decide +kernel) entry_list_append (pile_isList T X hx) (args_list_append _ _) ?_
  show wpAny _ _ (updateSeq x (·.push v) >>= fun _ => ret .none) _ _ s
  refine wpAny_bind (pile_update hx (by omega) (by simp; omega) fun h' n' hx' hs => wpAny_pure ⟨.none, rfl, hQ h' n' ?_ hs⟩)
  rw [hx']; simp
end
end Mine
end

section
open PySem PySem.W PyProof.Rows PySem.Calls
set_option maxHeartbeats 4000000
namespace Mine

/-- all but two objects stay -/
structure Mut (x dx : Addr) (s s' : Shared) : Prop where
  os : s'.os = s.os
  gens : AllBare s.gens → AllBare s'.gens
  keep : ∀ b o, b ≠ x → b ≠ dx → s.heap.get? b = some o → (b ∉ tabs ∨ NotTab o) → s'.heap.get? b = some o
  tab : ∀ P, P ∈ tabs → ∀ ps, s.heap.get? P = some (tabObj ps) → ∃ more, s'.heap.get? P = some (tabObj (ps ++ more))
  there : ∀ b o, s.heap.get? b = some o → ∃ o', s'.heap.get? b = some o'
theorem Mut.ofUp {x dx : Addr} {s s' : Shared} (u : Up s s') : Mut x dx s s' := ⟨u.os, u.gens, fun b o _ _ e h => u.keep b o e h, u.tab, u.there⟩
theorem Mut.trans {x dx : Addr} {a b c : Shared} (p : Mut x dx a b) (q : Mut x dx b c) : Mut x dx a c :=
  ⟨q.os.trans p.os, fun h => q.gens (p.gens h), fun y o h1 h2 e h => q.keep y o h1 h2 (p.keep y o h1 h2 e h) h, fun P hP ps e => by
    obtain ⟨m, e1⟩ := p.tab P hP ps e
    obtain ⟨m', e2⟩ := q.tab P hP _ e1
    exact ⟨m ++ m', by rw [e2, Array.append_assoc]⟩, fun y o e => let ⟨o', e'⟩ := p.there y o e; q.there y o' e'⟩
/-- one object of the two turns -/
theorem Mut.same {x dx a : Addr} {s : Shared} {h' : Heap} {tk : Nat} (ha : a = x ∨ a = dx) (hs : Heap.SameBut a s.heap h') (hn : ∀ P, P ∈ tabs → P ≠ a) (ht : ∃ o, h'.get? a = some o) : Mut x dx s { s with heap := h', toks := tk } :=
  ⟨rfl, id, fun b o h1 h2 e _ => hs.extBut b o (by rcases ha with rfl | rfl <;> assumption) e, fun P hP ps e => ⟨#[], by rw [Array.append_empty]; exact hs.extBut P _ (hn P hP) e⟩,
    fun b o e => by
      by_cases hb : b = a
      · subst hb; exact ht
      · exact ⟨o, hs.extBut b o hb e⟩⟩
theorem Mut.keepT {x dx : Addr} {s s' : Shared} (u : Mut x dx s s') {vs : List Value} {n : Nat} {es : Array DictEntry} {m : Nat} (hx : s.heap.get? x = some (pileObj dx vs n)) (hd : s.heap.get? dx = some (dicObj es m)) : KeepT s.heap s'.heap := fun b o e hc ⟨items, k, hdt⟩ => by
  refine u.keep b o ?_ ?_ e (.inr (notTab_tuple hc))
  · rintro rfl; rw [hx] at e; cases e; cases hc
  · rintro rfl; rw [hd] at e; cases e; cases hdt

/-- a pile that stands -/
structure PileAt (h : Heap) (x dx : Addr) (vs : List Value) (n : Nat) (es : Array DictEntry) (m : Nat) (xs : List F) : Prop where
  obj : h.get? x = some (pileObj dx vs n)
  dic : h.get? dx = some (dicObj es m)
  ini : ∃ hsh tk t, es = #[⟨hsh, .str "_initial_size" tk, .int 0 t⟩]
  reps : RepFs h vs xs
theorem PileAt.rep {w : World} {h : Heap} {x dx : Addr} {vs : List Value} {n : Nat} {es : Array DictEntry} {m : Nat} {xs : List F} (p : PileAt h x dx vs n es m xs) : Rep w h (.ref x) (.pile x dx xs) :=
  ⟨rfl, vs, n, es, m, p.obj, p.dic, p.ini, trivial, trivial, p.reps⟩
theorem pileAt_of {w : World} {h : Heap} {v : Value} {x dx : Addr} {xs : List F} (r : Rep w h v (.pile x dx xs)) : v = .ref x ∧ ∃ vs n es m, PileAt h x dx vs n es m xs :=
  let ⟨e, vs, n, es, m, h1, h2, r1, _, _, r⟩ := r; ⟨e, vs, n, es, m, h1, h2, r1, r⟩
theorem PileAt.keys {h : Heap} {x dx : Addr} {vs : List Value} {n : Nat} {es : Array DictEntry} {m : Nat} {xs : List F} (p : PileAt h x dx vs n es m xs) : StrKeys es := by
  obtain ⟨hsh, tk, t, rfl⟩ := p.ini
  intro e he
  simp at he
  subst he
  exact ⟨_, _, rfl⟩
theorem PileAt.none {h : Heap} {x dx : Addr} {vs : List Value} {n : Nat} {es : Array DictEntry} {m : Nat} {xs : List F} (p : PileAt h x dx vs n es m xs) {y : Str} (hy : (("_initial_size" : Str) == y) = false) : nsFind es y = Option.none := by
  obtain ⟨hsh, tk, t, rfl⟩ := p.ini
  unfold nsFind findBy
  simp [Value.isStr, hy]
theorem PileAt.apart {h : Heap} {x dx : Addr} {vs : List Value} {n : Nat} {es : Array DictEntry} {m : Nat} {xs : List F} (p : PileAt h x dx vs n es m xs) : x ≠ dx := by
  rintro rfl
  have h1 := p.obj
  rw [p.dic] at h1; cases h1
theorem PileAt.noTab {K : Frag} {s : Shared} {x dx : Addr} {vs : List Value} {n : Nat} {es : Array DictEntry} {m : Nat} {xs : List F} (p : PileAt s.heap x dx vs n es m xs) (wd : Wd K s) : ∀ P, P ∈ tabs → P ≠ x ∧ P ≠ dx := fun P hP => by
  obtain ⟨ps, hp, _⟩ := wd.tab P hP
  constructor
  · rintro rfl; rw [p.obj] at hp; cases hp
  · rintro rfl; rw [p.dic] at hp; cases hp
/-- neither of the two is the text's own -/
def Own (K : Frag) (x dx : Addr) : Prop := ∀ a o, K.lookup a = some o → a ≠ x ∧ a ≠ dx
theorem Wd.mut {K : Frag} {x dx a : Addr} {s : Shared} (wd : Wd K s) (ow : Own K x dx) (ha : a = x ∨ a = dx) {h' : Heap} {tk : Nat} (hs : Heap.SameBut a s.heap h') (hn : ∀ P, P ∈ tabs → P ≠ a) : Wd K { s with heap := h', toks := tk } :=
  ⟨fun b o e n => hs.extBut b o (by have := ow b o e; rcases ha with rfl | rfl; exact this.1; exact this.2) (wd.st b o e n), fun P hP => let ⟨ps, hp, ok⟩ := wd.tab P hP; ⟨ps, hs.extBut P _ (hn P hP) hp, ok⟩⟩
theorem PileAt.up {s s' : Shared} (u : Up s s') {x dx : Addr} {vs : List Value} {n : Nat} {es : Array DictEntry} {m : Nat} {xs : List F} (p : PileAt s.heap x dx vs n es m xs) : PileAt s'.heap x dx vs n es m xs :=
  ⟨u.get p.obj (.inl nofun), u.get p.dic (.inl nofun), p.ini, p.reps.keepT u.keepT⟩

/-- a call of a function whose body is walked by hand -/
theorem call_raw {c : Cx} (ok : c.Ok) {k : Nat} (hk : c.k = k + 1) {a : Addr} {fd : FuncData} {body : List Stmt} (f : FnOk c.K a fd body) (kl : Bool) {ds : List (Str × D)}
    {vals : List Value} {binds : List (Str × Value)} {s : Shared} (hbind : _root_.PySem.BindsTo s fd ⟨vals, []⟩ binds) (inv : c.Inv s) (hb : BindsTo c.w s.heap binds ds) (hnb : (binds.map (·.1)).Nodup)
    (hkind : ∀ x ∈ binds, fd.scope.names.lookup x.1 = some .local ∨ (fd.scope.names.lookup x.1 = some .cell ∧ (x.1 == ("__classdict__" : Str)) = false ∧ ((cellsFrom (s.heap.objs.size + 1) fd.scope.names []).lookup x.1).isSome = true))
    {Q : Value → Shared → Prop} (h : ∀ s', (fnCx c.w c.K k c.A fd a s.heap.objs.size s kl ds).Ok → (fnCx c.w c.K k c.A fd a s.heap.objs.size s kl ds).Inv s' → Up s s' →
      wpAny (model PG c.w) (fnCx c.w c.K k c.A fd a s.heap.objs.size s kl ds).A (execs body (fnCx c.w c.K k c.A fd a s.heap.objs.size s kl ds).env) (fun fl s'' => Q (match fl with | .ret v => v | _ => .none) s'') NoE s') :
    wpAny (model PG c.w) c.A (call (.ref a) vals) Q NoE s := by
  obtain ⟨cl, dd, sl, hK⟩ := f.at'
  obtain ⟨cd, oc, vs, t, hcd, hct, hKc, hdc, hq⟩ := f.code
  refine wpAny_call (codeAny_call_function (o := _) (by have := ok.depth; show c.A.depth < 1000; omega) (inv.wd.st _ _ hK f.nt) rfl f.co f.gen f.body ⟨cd, oc, vs, t, hcd, inv.wd.st _ _ hKc hct, hdc, hq⟩ ?_)
  rw [f.clo]
  refine hbind _ _ _ _ (wpAny_with_toks inv.pos (wpAny_newFunctionEnv_cells f.kind (fun x hx => (hkind x hx).elim .inl fun y => .inr ⟨y.1, y.2.2⟩) fun env he s' X pos => ?_))
  subst he
  refine ⟨(inv.wd.noLimit ok.gok).keeps X.toInCall.keep, codeAny_func ?_⟩
  have hfresh : s.heap.get? s.heap.objs.size = none := fresh_size (Nat.le_refl _)
  have okf : (fnCx c.w c.K k c.A fd a s.heap.objs.size s kl ds).Ok := by
    have d1 := ok.depth
    have d2 := ok.units
    refine ⟨ok.handled, ?_, ?_, f.kind, f.glob, f.blt, ok.gok, inv.wd, hfresh, X.apart, fun p hp => fresh_size (Nat.le_of_lt (X.above p.1 p.2 hp))⟩
    · show c.A.depth + 1 + 10 * k ≤ 990; omega
    · show c.A.units + 3 + 100 * k ≤ 9800; omega
  have upS : Up s s' := by
    obtain ⟨h', tk, e, hk'⟩ := X.done
    rw [e]; exact Up.of hk'
  have wdS : Wd c.K s' := by
    obtain ⟨h', tk, e, hk'⟩ := X.done
    rw [e]; exact inv.wd.keeps hk'
  have invf : (fnCx c.w c.K k c.A fd a s.heap.objs.size s kl ds).Inv s' := by
    refine ⟨⟨wdS, upS, ⟨_, X.toInCall.ns⟩, fun p hp => ?_, fun p hp => ?_⟩, pos⟩
    · obtain ⟨v, hv, r⟩ := hb.mem p hp
      refine ⟨v, ?_, r.up upS, r.notFresh hfresh⟩
      rcases hkind _ hv with hl | ⟨hl, hcd', hs⟩
      · exact .inl ⟨hl, _, X.toInCall.ns, bindL_mem hnb hv hl⟩
      · obtain ⟨ac, hac⟩ := Option.isSome_iff_exists.mp hs
        refine .inr ⟨.inl hl, hcd', ac, hac, ?_⟩
        have := X.cell _ _ hac
        rwa [bindC_mem hnb hv (fun e => by
          have e' : fd.scope.names.lookup p.1 = some .local := e
          rw [hl] at e'; cases e')] at this
    · have hnd : ((cellsFrom (s.heap.objs.size + 1) fd.scope.names []).map (·.1)).Nodup := cellsFrom_names fd.scope.names 0 (s.heap.objs.size + 1) [] [] rfl ▸ f.nd
      exact ⟨_, X.cell p.1 p.2 (lookup_of_mem_nodup hnd hp)⟩
  exact wpAny_mono (h s' okf invf upS) (fun _ _ x => x) fun _ _ x => x.elim

abbrev methOf (st : Stmt) (name qual : Str) (dV pm cd doc : Value) : FuncData := { docDef name (argsS st) (bodyS st) (scopeS st) pm cd doc with qualname := qual, defaults := dV }
abbrev mAt (n : Nat) : Stmt := nthS (bodyS (stAt 9)) n

/-- what a call that turns the pile leaves -/
structure Turned (c : Cx) (x dx : Addr) (s s' : Shared) (xs : List F) : Prop where
  chg : Mut x dx s s'
  wd : Wd c.K s'
  pile : ∃ vs n es m, PileAt s'.heap x dx vs n es m xs

theorem call_push {c : Cx} (ok : c.Ok) {k : Nat} (hk : c.k = k + 1) (T : PileTop c.K) {a : Addr} {pm cd doc : Value} (f : FnOk c.K a (methOf (mAt 1) "push" "_Accumulator.push" .none pm cd doc) (bodyS (mAt 1))) {s : Shared} (inv : c.Inv s) {x dx : Addr} {vs : List Value} {n : Nat} {es : Array DictEntry} {m : Nat} {xs : List F}
    (p : PileAt s.heap x dx vs n es m xs) (ow : Own c.K x dx) (hlen : xs.length ≤ 1000) {v1 v2 : Value} {f1 f2 : F} (r1 : RepF s.heap v1 f1) (r2 : RepF s.heap v2 f2) {Q : Value → Shared → Prop}
    (h : ∀ s', Turned c x dx s s' (xs ++ [.tup [f1, f2]]) → Q .none s') : wpAny (model PG c.w) c.A (call (.ref a) [.ref x, v1, v2]) Q NoE s := by
  refine call_raw ok hk f false (binds := [("self", .ref x), ("fws", v1), ("string", v2)]) (ds := [("self", .pile x dx xs), ("fws", .f f1), ("string", .f f2)]) (.of_eq rfl) inv (.cons p.rep (.cons r1 (.cons r2 .nil))) (by show (["self", "fws", "string"] : List Str).Nodup; decide) (fun y hy => by simp at hy; rcases hy with rfl | rfl | rfl <;> exact .inl rfl) ?_
  intro s1 okf i1 u1
  refine wpAny_execs_cons (wpAny_Expr_any ?_ rfl rfl)
  refine methodCall_KW ?_ (by rfl)
  refine (Ev.name (d := .pile x dx xs) rfl) okf s1 _ i1 fun v s2 i2 u2 rp _ => ?_
  obtain ⟨rfl, vs2, n2, es2, m2, p2⟩ := pileAt_of rp
  refine pile_getMethod T i2.wd.inK p2.obj p2.dic p2.keys (p2.none (by decide)) T.append (tf := "method_descriptor") (fun _ _ => Looks.of_pure rfl) (.inr rfl) ?_
  refine wp_callWith (first := [.ref x]) (.inl ⟨_, rfl⟩) rfl (fun P hp => evalArgs_plain hp) (args1 (d := .f (.tup [f1, f2])) (Ev.tuple (Evs.cons (Ev.name rfl) (Evs.cons (Ev.name rfl) Evs.nil)) (by simp)) (by intro _; rfl) okf i2 fun vt s3 i3 u3 rt => ⟨i3.wd, ?_⟩)
  have p3 := p2.up u3
  refine pile_append T i3.wd.inK p3.obj (by rw [p3.reps.length]; omega) fun h4 n4 hx4 hs4 => ?_
  have hn := p3.noTab i3.wd
  refine wpAny_execs_nil (h _ ⟨((Mut.ofUp (u1.trans (u2.trans u3))).trans (Mut.same (tk := s3.toks) (.inl rfl) hs4 (fun P hP => (hn P hP).1) ⟨_, hx4⟩)), Wd.mut (tk := s3.toks) i3.wd ow (.inl rfl) hs4 (fun P hP => (hn P hP).1), vs2 ++ [vt], n4, es2, m2, hx4, ?_, p3.ini, ?_⟩)
  · exact hs4.extBut _ _ (Ne.symm p3.apart) p3.dic
  · have kt : KeepT s3.heap h4 := fun b o e hc _ => hs4.extBut b o (by rintro rfl; rw [p3.obj] at e; cases e; cases hc) e
    exact (p3.reps.keepT kt).snoc (RepF.keepT kt rt)
end Mine
end

section
open PySem PySem.W PyProof.Rows PySem.Calls
set_option maxHeartbeats 4000000
namespace Mine

theorem bounds_cut (a b : Option Int) (n : Nat) : sliceBounds a b none n = (((cut a n 0 : Nat) : Int), ((cut b n n : Nat) : Int), 1) := by
  have h1 : ∀ (v : Option Int) (d : Nat), (match v with | none => (d : Int) | some i => max 0 (min (if i < 0 then i + (n : Int) else i) n)) = ((cut v n d : Nat) : Int) := by
    intro v d
    cases v with
    | none => rfl
    | some i =>
      show max 0 (min (if i < 0 then i + (n : Int) else i) n) = (((if i < 0 then (i + n).toNat else min i.toNat n) : Nat) : Int)
      by_cases h : i < 0
      · rw [if_pos h, if_pos h]; omega
      · rw [if_neg h, if_neg h]; omega
  have e1 := h1 a 0
  have e2 := h1 b n
  show (_, _, _) = _
  congr 1
  congr 1
section
variable {K : Frag} {w : World} {A : Around} {E : Value → Shared → Prop} {s : Shared} {x dx : Addr} {vs : List Value} {n : Nat} {name : Str}
theorem pile_seqKey {k : Value} {Q : Value → Shared → Prop} (T : PileTop K) (X : (noTabs K).In s.heap) (hx : s.heap.get? x = some (pileObj dx vs n)) (h : Q k s) : wpAny (model PG w) A (sequenceKey (.ref x) k name) Q E s := by
  unfold sequenceKey
  refine wpAny_bind ((pile_type hx).here ?_)
  try dsimp only
  refine wpAny_bind ?_
  unfold seqItemTypes
  refine wpAny_bind ((looks_mroIn X T.noDeque).here ?_)
  refine wpAny_pure ?_
  simp only [Bool.not_false, if_true]
  exact wpAny_pure h

theorem wp_listSubscript {sl : Addr} {vl vu : Value} {Q : Option Int → Shared → Prop} (hs : s.heap.IsSliceOf sl vl vu .none) (h : Q none s) : wpAny (model PG w) A (Builtin.List.listSubscript? (.ref sl)) Q E s := by
  obtain ⟨os, hos, hcs, hds⟩ := id hs
  have hTs : s.TypeIs (.ref sl) "slice" := ⟨os, hos, hcs⟩
  unfold Builtin.List.listSubscript?
  refine wpAny_bind (wpAny_specialOf hTs slice_no_index ?_)
  simp only [Option.isNone_none, if_true]
  exact wpAny_pure h
theorem wp_sliceParts {sl : Addr} {vl vu : Value} {a b : Option Int} {Q : Value × Value × Value → Shared → Prop} (hs : s.heap.IsSliceOf sl vl vu .none) (pl : IsPart vl a) (pu : IsPart vu b) (h : Q (rawPart a, rawPart b, rawPart none) s) :
    wpAny (model PG w) A (Builtin.List.listSliceParts (.ref sl)) Q E s := by
  obtain ⟨os, hos, hcs, hds⟩ := id hs
  rw [listSliceParts_eq]
  refine wpAny_bind (wpAny_field hos hds (x := .none) rfl (wpAny_bind (wpAny_listPart .none ?_)))
  rw [if_neg (show ¬ ((rawPart none == rawInt 0) = true) from Bool.false_ne_true)]
  refine wpAny_bind (wpAny_field hos hds (x := vl) rfl (wpAny_bind (wpAny_listPart pl ?_)))
  exact wpAny_bind (wpAny_field hos hds (x := vu) rfl (wpAny_bind (wpAny_listPart pu (wpAny_pure h))))
theorem wp_pileItems {Q : Array Value → Shared → Prop} (hx : s.heap.get? x = some (pileObj dx vs n)) (h : Q vs.toArray s) : wpAny (model PG w) A (Builtin.List.listItems (.ref x)) Q E s := by
  unfold Builtin.List.listItems
  exact wpAny_bind (wpAny_seqItems hx rfl (wpAny_pure h))

theorem pile_getSlice {sl : Addr} {vl vu : Value} {a b : Option Int} {Q : Value → Shared → Prop} (T : PileTop K) (X : (noTabs K).In s.heap) (hx : s.heap.get? x = some (pileObj dx vs n)) (hsz : vs.length ≤ 1000)
    (hs : s.heap.IsSliceOf sl vl vu .none) (pl : IsPart vl a) (pu : IsPart vu b)
    (h : Q (.ref s.heap.objs.size) { s with heap := s.heap.push { cls := .type "list", data := .seq (sliceL vs a b).toArray } }) : wpAny (model PG w) A (getItem (.ref x) (.ref sl)) Q E s := by
  obtain ⟨os, hos, hcs, hds⟩ := id hs
  have hTs : s.TypeIs (.ref sl) "slice" := ⟨os, hos, hcs⟩
  unfold getItem
  refine wpAny_holding ?_
  refine wpAny_bind (pile_seqKey T X hx ?_)
  refine wpAny_bind (pile_callSpecial X hx T.getitem slot_list_getitem.bind ?_)
  refine pile_call (.inr (by decide +kernel)) (nm := "__getitem__") (by decide +kernel) (by decide +kernel) entry_list_getitem (pile_isList T X hx) (args_list_getitem _ _) ?_
  show wpAny _ _ (Builtin.List.listSubscript? (.ref sl) >>= _) _ _ s
  refine wpAny_bind (wp_listSubscript hs ?_)
  refine wpAny_bind (wpAny_typeOf hTs ?_)
  rw [if_neg (by decide)]
  refine wpAny_bind (wp_sliceParts hs pl pu ?_)
  try dsimp only
  refine wpAny_bind (wp_pileItems hx ?_)
  refine wpAny_bind (wpAny_of_eq (sliceIndices_raw a b none _ nofun) ?_)
  try dsimp only
  have e : ((sliceRange (sliceBounds a b none vs.toArray.size).1 (sliceBounds a b none vs.toArray.size).2.1 (sliceBounds a b none vs.toArray.size).2.2).filterMap (vs.toArray[·]?)).toArray = (sliceL vs a b).toArray := slicePick_is vs a b
  rw [e]
  refine wpAny_bind (wpAny_newObj_type (wpAny_pure ⟨_, rfl, wpAny_pure h⟩) ?_)
  have := sliceL_len vs a b
  show (sliceL vs a b).toArray.size ≤ sizeLine
  rw [sizeLine_eq]; simp; omega

theorem pile_setSlice {sl l : Addr} {vl vu : Value} {a b : Option Int} {ws : List Value} {k : Nat} {Q : Unit → Shared → Prop} (T : PileTop K) (X : (noTabs K).In s.heap) (hx : s.heap.get? x = some (pileObj dx vs n)) (hsz : vs.length ≤ 1000) (hws : ws.length ≤ 1000)
    (hl : s.heap.get? l = some (listObj ws k)) (hs : s.heap.IsSliceOf sl vl vu .none) (pl : IsPart vl a) (pu : IsPart vu b)
    (h : ∀ h' n', h'.get? x = some (pileObj dx (vs.take (cut a vs.length 0) ++ ws ++ vs.drop (max (cut a vs.length 0) (cut b vs.length vs.length))) n') → Heap.SameBut x s.heap h' → Q () { s with heap := h' }) :
    wpAny (model PG w) A (setItem (.ref x) (.ref sl) (.ref l)) Q E s := by
  obtain ⟨os, hos, hcs, hds⟩ := id hs
  have hTs : s.TypeIs (.ref sl) "slice" := ⟨os, hos, hcs⟩
  have hTl : s.TypeIs (.ref l) "list" := ⟨_, hl, rfl⟩
  unfold setItem
  refine wpAny_holding ?_
  refine wpAny_bind (pile_seqKey T X hx ?_)
  refine wpAny_bind (pile_callSpecial X hx T.setitem slot_list_setitem.bind ?_)
  refine pile_call (.inl (by decide +kernel)) (nm := "__setitem__") (by decide +kernel) (by decide +kernel) entry_list_setitem (pile_isList T X hx) (args_list_setitem _ _ _) ?_
  show wpAny _ _ (Builtin.List.listSubscript? (.ref sl) >>= _) _ _ s
  refine wpAny_bind (wp_listSubscript hs ?_)
  refine wpAny_bind (wpAny_typeOf hTs ?_)
  rw [if_neg (by decide)]
  refine wpAny_bind (wp_sliceParts hs pl pu ?_)
  try dsimp only
  have hne : Builtin.List.listSameRef (.ref x) (.ref l) = false := by
    show (x == l) = false
    have : x ≠ l := by rintro rfl; rw [hx] at hl; cases hl
    simpa using this
  rw [hne]
  simp only [Bool.false_eq_true, if_false]
  have items : ∀ {Q : Array Value → Shared → Prop} {A : Around}, Q ws.toArray s → wpAny (model PG w) A (Builtin.List.listAllItems (.ref l) "must assign iterable to extended slice") Q E s := fun {Q A} hq => by
    unfold Builtin.List.listAllItems
    refine wpAny_bind (wpAny_typeOf hTl ?_)
    rw [if_pos (by decide)]
    refine wpAny_bind ?_
    exact wpAny_seqItems hl rfl (wpAny_pure hq)
  refine wpAny_bind (items ?_)
  refine wpAny_bind (wp_pileItems hx ?_)
  refine wpAny_bind (wpAny_of_eq (sliceIndices_raw a b none _ nofun) ?_)
  rw [bounds_cut, List.size_toArray]
  try dsimp only
  rw [if_pos (show ((1 : Int) == 1) = true from rfl)]
  refine wpAny_bind (wpAny_rule ?_)
  rw [if_neg (by simp [Builtin.List.listTooLong, sizeLine_eq]; omega)]
  have c1 := cut_le a vs.length 0 (Nat.zero_le _)
  have c2 := cut_le b vs.length vs.length (Nat.le_refl _)
  generalize hc1 : cut a vs.length 0 = p1 at *
  generalize hc2 : cut b vs.length vs.length = p2 at *
  have em : (max (p1 : Int) (p2 : Int)).toNat = max p1 p2 := by omega
  have e : ((fun xs : Array Value => xs.extract 0 ((p1 : Int)).toNat ++ ws.toArray ++ xs.extract (max (p1 : Int) (p2 : Int)).toNat xs.size) vs.toArray).toList = vs.take p1 ++ ws ++ vs.drop (max p1 p2) := by
    rw [em]
    simp [List.extract_eq_take_drop]
    rw [List.take_of_length_le (by simp)]
  refine wpAny_bind ?_
  show wpAny _ _ (updateSeq x (fun xs : Array Value => xs.extract 0 ((p1 : Int)).toNat ++ ws.toArray ++ xs.extract (max (p1 : Int) (p2 : Int)).toNat xs.size)) _ _ _
  refine pile_update hx (by omega) ?_ fun h' n' hx' hs' => ?_
  · rw [← Array.length_toList, e]
    simp; omega
  · refine wpAny_bind (wpAny_letGo (wpAny_pure ⟨_, rfl, wpAny_pure (h h' n' ?_ hs')⟩))
    rw [hx', e]
end

/-- a cut of the pile is a list -/
theorem wp_sliceExpr {c : Cx} (ok : c.Ok) {lo hi : Option Expr} {p : Pos} {a b : Option Int} (h2 : Part c lo a) (h3 : Part c hi b) {s : Shared} (inv : c.Inv s) {Q : Value → Shared → Prop}
    (h : ∀ sl vl vu s', c.Inv s' → Up s s' → s'.heap.IsSliceOf sl vl vu .none → IsPart vl a → IsPart vu b → Q (.ref sl) s') : wpAny (model PG c.w) c.A (eval (.Slice lo hi none p) c.env) Q NoE s :=
  wpAny_with_toks inv.pos (toE (wpAny_Slice (h2 ok s _ inv fun vl s1 i1 u1 e1 => h3 ok s1 _ i1 fun vu s2 i2 u2 e2 => by
    rw [evalPart_none]
    refine wpAny_pure fun _ => ?_
    refine h _ _ _ _ ⟨i2.push0 ok _ s2.toks, i2.pos⟩ ((u1.trans u2).trans Up.push) (Heap.IsSliceOf.new ..) (isPart e1) (isPart e2))))
theorem Ev.cutP {c : Cx} (T : PileTop c.K) {e : Expr} {lo hi : Option Expr} {p pos : Pos} {x dx : Addr} {xs : List F} {a b : Option Int} (h1 : Ev c e (.pile x dx xs)) (h2 : Part c lo a) (h3 : Part c hi b) (hs : xs.length ≤ 1000)
    (ht : ∀ o r, letTemporaryGo e o r = pure () := by intro _ _; rfl) : Ev c (.Subscript e (.Slice lo hi none p) pos) (.list (sliceL xs a b)) :=
  Ev.mk fun ok s Q inv h => by
  rw [eval_Subscript]
  refine wpAny_bind (h1 ok s _ inv fun v1 s1 i1 u1 r1 _ => ?_)
  refine wpAny_bind (wpAny_holding (wp_sliceExpr ok h2 h3 i1 fun sl vl vu s2 i2 u2 hsl pl pu => wpAny_bind (wpAny_standAt ?_)))
  obtain ⟨rfl, vs, n, es, m, p2⟩ := pileAt_of (r1.up u2)
  refine wpAny_bind ?_
  unfold getitemInPython
  refine wpAny_bind ((pile_special i2.wd.inK p2.obj T.getitem).here (wpAny_pure ?_))
  refine wpAny_bind ?_
  show wpAny _ _ (operate [.ref sl, .ref x] (getItem (.ref x) (.ref sl))) _ _ _
  refine wpAny_operating (pile_getSlice T i2.wd.inK p2.obj (by rw [p2.reps.length]; omega) hsl pl pu ?_)
  rw [ht]
  refine wpAny_bind (wpAny_pure (wpAny_pure ?_))
  exact h _ _ (i2.push0 ok _ _) ((u1.trans u2).trans Up.push) (Rep.newList (p2.reps.slice a b)) trivial
end Mine
end

section
open PySem PySem.W PyProof.Rows PySem.Calls
set_option maxHeartbeats 4000000
namespace Mine

theorem refuse_list (self : Value) : Builtin.ObjectAttr.refuseIfOverridden self "__setattr__" = (typeOf self >>= fun tp => mroOf tp >>= fun l => refuseLoop self "__setattr__" l) := rfl
theorem passes_list (self : Value) : refuseLoop self "__setattr__" [.type "list", .type "object"] = pure () := by kernel_rfl

/-- the one attribute stored -/
def IniDict (es : Array DictEntry) (v : Value) : Prop := ∃ hsh tk, es = #[⟨hsh, .str "_initial_size" tk, v⟩]
theorem put_ini (h : Int) (tk : Tok) (v : Value) (es : Array DictEntry) (m : Nat) (he : es = #[] ∨ ∃ v0, IniDict es v0) : ∃ es' m', Obj.putName "_initial_size" h (.str "_initial_size" tk) v (dicObj es m) = dicObj es' m' ∧ IniDict es' v := by
  rcases he with rfl | ⟨v0, hsh, tk', rfl⟩
  · exact ⟨_, _, putName_dict "_initial_size" h (.str "_initial_size" tk) v [] m, h, tk, rfl⟩
  · exact ⟨_, _, putName_dict "_initial_size" h (.str "_initial_size" tk) v [⟨hsh, .str "_initial_size" tk', v0⟩] m, hsh, tk', by simp [putL, Value.isStr]⟩
section
variable {K : Frag} {w : World} {A : Around} {E : Value → Shared → Prop} {s : Shared} {x dx : Addr} {vs : List Value} {n : Nat}
theorem pile_setAttr {es : Array DictEntry} {m : Nat} {v : Value} {Q : Unit → Shared → Prop} (T : PileTop K) (X : (noTabs K).In s.heap) (hx : s.heap.get? x = some (pileObj dx vs n)) (hd : s.heap.get? dx = some (dicObj es m)) (he : es = #[] ∨ ∃ v0, IniDict es v0)
    (h : ∀ h' tk es' m', h'.get? dx = some (dicObj es' m') → IniDict es' v → Heap.SameBut dx s.heap h' → Q () { s with heap := h', toks := tk }) : wpAny (model PG w) A (setAttr (.ref x) "_initial_size" v) Q E s := by
  obtain ⟨cd, hc, hdict, hmro⟩ := T.cls
  obtain ⟨hh, g, d, t, os⟩ := s
  dsimp only at X hx hd h
  have I : InstAt hh x (pileObj dx vs n) 133 (some (dicObj es m)) := ⟨hx, rfl, rfl, hd⟩
  refine set_plain (s := ⟨hh, g, d, t, os⟩) X I T.setattr ?_
  have SF := PySem.F.store_object
  have it := I.type (M := model PG w)
  have sub : Looks (model PG w) hh (isInstance (.ref x) (.type "object")) true := it.andThen (looks_mroIn X T.isObj)
  refine codeAny_call_builtin SF.slot.plain SF.entry (@check_slot (model PG w) _ _ ⟨hh, g, d, t + 1, os⟩ "object.__setattr__" "object" "__setattr__" (.ref x) [.str "_initial_size" t, v] [] _ SF.kind SF.split sub (SF.args (.ref x) (.str "_initial_size" t) v) ?_)
  have hm : Looks (model PG w) hh (mroOf (.ref 133)) cd.mro := (looks_clsIn X hc).andThen .now
  rw [osa_eq, refuse_list]
  refine wpAny_bind (wpAny_bind (it.at (wpAny_bind (hm.at ?_))))
  rw [hmro, refuseLoop_ref, passes_list]
  refine wpAny_pure (wpAny_bind (it.at (wpAny_bind ((looks_findIn X T.iniAttr).at (wpAny_bind (wpAny_pure ?_))))))
  dsimp only
  refine wpAny_bind (wpAny_pure (wpAny_bind (wpAny_bind (wpAny_loadPart hx (wpAny_bind ((looks_clsIn X hc).at ?_))))))
  rw [hdict]
  refine wpAny_pure (a := some dx) (wpAny_bind (wpAny_pure (wpAny_bind ?_)))
  unfold nsSet
  refine wpAny_bind (wpAny_bind (wpAny_askSetting (wpAny_pure (wpAny_bind (wpAny_mkText (wpAny_bind (wpAny_loadPart hd ?_)))))))
  have c : (!es.any (·.key.isStr "_initial_size") && es.any (·.refKey)) = false := by
    rcases he with rfl | ⟨v0, hsh, tk', rfl⟩
    · simp
    · simp [Value.isStr]
  dsimp only
  rw [aRefKeyMayBeTheName_at, c]
  obtain ⟨es', m', e1, e2⟩ := put_ini (if ("_initial_size" : Str).cps.isEmpty = true then 0 else reduceHash ((model PG w).w.params.strHash ("_initial_size" : Str).cps)) (t + 1) v es m he
  have e1' : Obj.putName "_initial_size" (if ("_initial_size" : Str).cps.isEmpty = true then 0 else reduceHash ((model PG w).w.params.strHash ("_initial_size" : Str).cps)) (.str "_initial_size" (t + 1)) v (dicObj es m) = dicObj es' m' := e1
  have D' := Heap.get?_update_self (h := hh) (a := dx) (Obj.putName "_initial_size" (if ("_initial_size" : Str).cps.isEmpty = true then 0 else reduceHash ((model PG w).w.params.strHash ("_initial_size" : Str).cps)) (.str "_initial_size" (t + 1)) v) hd (by rw [e1']; rfl)
  rw [e1'] at D'
  refine wpAny_updatePart hd ?_
  refine wpAny_bind (wpAny_lookBehind D' (pastItsLine_dict (by obtain ⟨hsh, tk, rfl⟩ := e2; rw [sizeLine_eq]; simp)) ?_)
  exact wpAny_pure (h _ _ es' m' D' e2 (Heap.SameBut.update ..))
end
end Mine
end

section
open PySem PySem.W PyProof.Rows PySem.Calls
set_option maxHeartbeats 4000000
namespace Mine

theorem Bnd.same {env : Env} {h h' : Heap} {a : Addr} {o : Obj} {items : Array Value} {k : Nat} (ho : h.get? a = some o) (hd : o.data = .seq items k) (hs : Heap.SameBut a h h') {x : Str} {v : Value} : Bnd env h x v → Bnd env h' x v
  | .inl ⟨q, m, n, e⟩ => .inl ⟨q, m, n.sameBut hs (by
      rintro rfl
      obtain ⟨o', es, ep, ho', hd', _⟩ := n
      rw [ho] at ho'; cases ho'; rw [hd] at hd'; cases hd'), e⟩
  | .inr ⟨q, kd, c, e, hc⟩ => .inr ⟨q, kd, c, e, hc.sameBut hs (by
      rintro rfl
      obtain ⟨o', ho', hd'⟩ := hc
      rw [ho] at ho'; cases ho'; rw [hd] at hd'; cases hd')⟩
theorem Bnd.sameD {env : Env} {h h' : Heap} {a : Addr} {es : Array DictEntry} {k : Nat} (ho : h.get? a = some (dicObj es k)) (hl : a ≠ env.locals) (hs : Heap.SameBut a h h') {x : Str} {v : Value} : Bnd env h x v → Bnd env h' x v
  | .inl ⟨q, m, n, e⟩ => .inl ⟨q, m, n.sameBut hs (Ne.symm hl), e⟩
  | .inr ⟨q, kd, c, e, hc⟩ => .inr ⟨q, kd, c, e, hc.sameBut hs (by
      rintro rfl
      obtain ⟨o', ho', hd'⟩ := hc
      rw [ho] at ho'; cases ho'; cases hd')⟩
theorem rep_list_same {w : World} {h h' : Heap} {x dx : Addr} {vs : List Value} {n : Nat} (ho : h.get? x = some (pileObj dx vs n)) (hs : Heap.SameBut x h h') {v : Value} {xs : List F} (r : Rep w h v (.list xs)) : Rep w h' v (.list xs) := by
  obtain ⟨a, us, k, e, ha, q⟩ := r
  refine ⟨a, us, k, e, hs.extBut _ _ (by rintro rfl; rw [ho] at ha; cases ha) ha, q.keepT fun b o e hc _ => hs.extBut b o (by rintro rfl; rw [ho] at e; cases e; cases hc) e⟩
theorem rep_list_sameD {w : World} {h h' : Heap} {dx : Addr} {es : Array DictEntry} {m : Nat} (ho : h.get? dx = some (dicObj es m)) (hs : Heap.SameBut dx h h') {v : Value} {xs : List F} (r : Rep w h v (.list xs)) : Rep w h' v (.list xs) := by
  obtain ⟨a, us, k, e, ha, q⟩ := r
  refine ⟨a, us, k, e, hs.extBut _ _ (by rintro rfl; rw [ho] at ha; simp [dicObj, listObj] at ha) ha, q.keepT fun b o e hc ⟨_, _, hd⟩ => hs.extBut b o (by rintro rfl; rw [ho] at e; cases e; cases hd) e⟩

theorem call_pop_from {c : Cx} (ok : c.Ok) {k : Nat} (hk : c.k = k + 1) (T : PileTop c.K) {a : Addr} {pm cd doc : Value} (f : FnOk c.K a (methOf (mAt 2) "pop_from" "_Accumulator.pop_from" (.ref 80) pm cd doc) (bodyS (mAt 2))) {s : Shared} (inv : c.Inv s) {x dx : Addr} {vs : List Value} {n : Nat} {es : Array DictEntry} {m : Nat} {xs : List F}
    (p : PileAt s.heap x dx vs n es m xs) (ow : Own c.K x dx) (hlen : xs.length ≤ 1000) {i : Int} {t : Tok} {Q : Value → Shared → Prop}
    (h : ∀ v s', Turned c x dx s s' (xs.take (cut (some i) xs.length 0)) → Rep c.w s'.heap v (.list (sliceL xs (some i) none)) → Q v s') : wpAny (model PG c.w) c.A (call (.ref a) [.ref x, .int i t]) Q NoE s := by
  obtain ⟨t80, n80, h80⟩ := T.d80
  refine call_raw ok hk f false (binds := [("self", .ref x), ("i", .int i t)]) (ds := [("self", .pile x dx xs), ("i", .f (.int i))]) (.of_defaults (T := 80) rfl (inv.wd.st _ _ h80 (by decide)) rfl rfl rfl) inv (.cons p.rep (.cons (.int i t) .nil)) (by show (["self", "i"] : List Str).Nodup; decide) (fun y hy => by simp at hy; rcases hy with rfl | rfl <;> exact .inl rfl) ?_
  intro s1 okf i1 u1
  refine wpAny_execs_cons (S1.assign (d := .list (sliceL xs (some i) none)) (vs' := [("popped", .list (sliceL xs (some i) none)), ("self", .pile x dx xs), ("i", .f (.int i))]) (Ev.cutP (c := fnCx c.w c.K k c.A (methOf (mAt 2) "pop_from" "_Accumulator.pop_from" (.ref 80) pm cd doc) a s.heap.objs.size s false [("self", .pile x dx xs), ("i", .f (.int i))]) T (Ev.name rfl) (Part.some (Ev.name rfl)) Part.none hlen) rfl (.inl rfl) (SetV.add (by rfl)) rfl okf s1 _ i1 fun fl s2 ⟨e, i2, _⟩ => ?_)
  subst e
  have ok2 := okf.wv [("popped", .list (sliceL xs (some i) none)), ("self", .pile x dx xs), ("i", .f (.int i))]
  refine wpAny_execs_cons (wpAny_Assign_Subscript ?_ rfl)
  refine (Ev.list (xs := []) Evs.nil (by decide)) ok2 s2 _ i2 fun vl s3 i3 u3 rl _ => ?_
  refine (Ev.name (d := .pile x dx xs) rfl) ok2 s3 _ i3 fun vx s4 i4 u4 rx _ => ?_
  refine wp_sliceExpr ok2 (Part.some (k := i) (Ev.name rfl)) Part.none i4 fun sl v1 v2 s5 i5 u5 hsl pl pu => ?_
  obtain ⟨rfl, vs5, n5, es5, m5, p5⟩ := pileAt_of (rx.up u5)
  obtain ⟨la, ws, kk, rfl, hla, hws⟩ := (rl.up u4).up u5
  cases hws
  refine pile_setSlice T i5.wd.inK p5.obj (by rw [p5.reps.length]; exact hlen) (by simp) hla hsl pl pu fun h6 n6 hx6 hs6 => ?_
  have hl5 : vs5.length = xs.length := p5.reps.length
  have hn := p5.noTab i5.wd
  obtain ⟨pv, pb, pr, _⟩ := i5.vars ("popped", .list (sliceL xs (some i) none)) (.head _)
  refine wpAny_execs_cons (wpAny_Return_some (wpAny_Name (wp_name okf (pb.same p5.obj rfl hs6) ?_) rfl))
  refine h pv _ ⟨(Mut.ofUp i5.up).trans (Mut.same (tk := s5.toks) (.inl rfl) hs6 (fun P hP => (hn P hP).1) ⟨_, hx6⟩), Wd.mut (tk := s5.toks) i5.wd ow (.inl rfl) hs6 (fun P hP => (hn P hP).1), ?_⟩ (rep_list_same p5.obj hs6 pr)
  refine ⟨_, n6, es5, m5, hx6, hs6.extBut _ _ (Ne.symm p5.apart) p5.dic, p5.ini, ?_⟩
  have kt : KeepT s5.heap h6 := fun b o e hc _ => hs6.extBut b o (by rintro rfl; rw [p5.obj] at e; cases e; cases hc) e
  have e1 : cut none vs5.length vs5.length = vs5.length := rfl
  have c1 := cut_le (some i) vs5.length 0 (Nat.zero_le _)
  rw [e1, Nat.max_eq_right c1, List.drop_length, List.append_nil, List.append_nil, hl5]
  exact (p5.reps.take _).keepT kt

theorem CmpR.isNone {c : Cx} {xs : List F} : CmpR c .Is (.list xs) (.f .none) false := fun ok s v1 v2 Q inv r1 r2 h => by
  obtain ⟨a, vs, n, rfl, _⟩ := r1
  cases r2
  exact PyProof.Rows.is_none_ne (by nofun) (h s inv.toInv0 (Up.refl s))
theorem Ev.cnone {c : Cx} {k : Nat} {pos : Pos} : Ev c (.Constant .none k pos) (.f .none) := Ev.mk fun _ _ _ inv h => by
  refine wpAny_of_eq (a := Value.none) ?_ (h _ _ inv.toInv0 (Up.refl _) .none trivial)
  rfl
theorem call_reset {c : Cx} (ok : c.Ok) {k : Nat} (hk : c.k = k + 1) (T : PileTop c.K) {a : Addr} {pm cd doc : Value} (f : FnOk c.K a (methOf (mAt 6) "reset" "_Accumulator.reset" (.ref 109) pm cd doc) (bodyS (mAt 6))) {s : Shared} (inv : c.Inv s) {x dx : Addr} {vs : List Value} {n : Nat} {es : Array DictEntry} {m : Nat} {xs : List F}
    (p : PileAt s.heap x dx vs n es m xs) (ow : Own c.K x dx) (hlen : xs.length ≤ 1000) {v : Value} {ys : List F} (hv : Rep c.w s.heap v (.list ys)) (hys : ys.length ≤ 1000) {Q : Value → Shared → Prop}
    (h : ∀ s', Turned c x dx s s' ys → Q .none s') : wpAny (model PG c.w) c.A (call (.ref a) [.ref x, v]) Q NoE s := by
  obtain ⟨n109, h109⟩ := T.d109
  refine call_raw ok hk f false (binds := [("self", .ref x), ("startval", v)]) (ds := [("self", .pile x dx xs), ("startval", .list ys)]) (.of_defaults (T := 109) rfl (inv.wd.st _ _ h109 (by decide)) rfl rfl rfl) inv (.cons p.rep (.cons hv .nil)) (by show (["self", "startval"] : List Str).Nodup; decide) (fun y hy => by simp at hy; rcases hy with rfl | rfl <;> exact .inl rfl) ?_
  intro s1 okf i1 u1
  refine wpAny_execs_cons (S1.ite (b := false) (Ts.cmp (Ev.name (d := .list ys) rfl) Ev.cnone CmpR.isNone) SX.nil okf s1 _ i1 fun fl s2 ⟨e, i2, _⟩ => ?_)
  subst e
  refine wpAny_execs_cons (wpAny_Assign_Subscript ?_ rfl)
  refine (Ev.name (d := .list ys) rfl) okf s2 _ i2 fun vl s3 i3 u3 rl _ => ?_
  refine (Ev.name (d := .pile x dx xs) rfl) okf s3 _ i3 fun vx s4 i4 u4 rx _ => ?_
  refine wp_sliceExpr okf Part.none Part.none i4 fun sl v1 v2 s5 i5 u5 hsl pl pu => ?_
  obtain ⟨rfl, vs5, n5, es5, m5, p5⟩ := pileAt_of (rx.up u5)
  obtain ⟨la, ws, kk, rfl, hla, hws⟩ := (rl.up u4).up u5
  refine pile_setSlice T i5.wd.inK p5.obj (by rw [p5.reps.length]; exact hlen) (by rw [hws.length]; exact hys) hla hsl pl pu fun h6 n6 hx6 hs6 => ?_
  have hn := p5.noTab i5.wd
  have kt : KeepT s5.heap h6 := fun b o e hc _ => hs6.extBut b o (by rintro rfl; rw [p5.obj] at e; cases e; cases hc) e
  have ec : vs5.take (cut none vs5.length 0) ++ ws ++ vs5.drop (max (cut none vs5.length 0) (cut none vs5.length vs5.length)) = ws := by
    show vs5.take 0 ++ ws ++ vs5.drop (max 0 vs5.length) = ws
    simp
  rw [ec] at hx6
  have hd6 := hs6.extBut _ _ (Ne.symm p5.apart) p5.dic
  have hmut1 : Mut x dx s { s5 with heap := h6 } := (Mut.ofUp i5.up).trans (Mut.same (tk := s5.toks) (.inl rfl) hs6 (fun P hP => (hn P hP).1) ⟨_, hx6⟩)
  have wd6 : Wd c.K { s5 with heap := h6 } := Wd.mut (tk := s5.toks) i5.wd ow (.inl rfl) hs6 (fun P hP => (hn P hP).1)
  have hws6 := hws.keepT kt
  -- the attribute
  obtain ⟨pv, pb, pr, pn⟩ := i5.vars ("self", .pile x dx xs) (.head _)
  obtain ⟨rfl, _⟩ := pileAt_of pr
  refine wpAny_execs_cons (plainObj_wpAny_Assign_Attribute (wpAny_Constant_int ?_) rfl)
  refine wpAny_Name (wp_name okf (pb.same p5.obj rfl hs6) ?_) rfl
  obtain ⟨hsh, tk0, t0, hes⟩ := p5.ini
  refine pile_setAttr T wd6.inK hx6 hd6 (.inr ⟨.int 0 t0, hsh, tk0, hes⟩) fun h7 tk7 es7 m7 hd7 hi7 hs7 => ?_
  have hn7 : ∀ P, P ∈ tabs → P ≠ dx := fun P hP => (hn P hP).2
  refine wpAny_execs_nil (h _ ⟨hmut1.trans (Mut.same (s := { s5 with heap := h6 }) (tk := tk7) (.inr rfl) hs7 hn7 ⟨_, hd7⟩), Wd.mut (s := { s5 with heap := h6 }) (tk := tk7) wd6 ow (.inr rfl) hs7 hn7, ws, n6, es7, m7, hs7.extBut _ _ p5.apart hx6, hd7, ?_, ?_⟩)
  · obtain ⟨a1, a2, e⟩ := hi7
    exact ⟨a1, a2, _, e⟩
  · exact hws6.keepT fun b o e hc ⟨_, _, hd⟩ => hs7.extBut b o (by rintro rfl; rw [hd6] at e; cases e; cases hd) e
end Mine
end

section
open PySem PySem.W PyProof.Rows PySem.Calls
set_option maxHeartbeats 4000000
namespace Mine

structure MakeTop (K : Frag) : Prop where
  obj : ∃ cd sl, (noTabs K).lookup 133 = some ⟨.type "type", none, .cls cd, sl⟩ ∧ cd.abstract = false ∧ cd.hasDel = false ∧ (sl.toList[4]?).join = some (.builtin "list.__new__") ∧ cd.mro = [.ref 133, .type "list", .type "object"] ∧ cd.hasDict = true
  init : findIn (noTabs K) (.ref 133) "__init__" = some (some (.ref 72))
  initF : typeIn (noTabs K) (.ref 72) = some (.type "function")
  call : specialIn (noTabs K) (.ref 133) "__call__" = some (some (.builtin "type.__call__"))
  typ : instIn (noTabs K) (.ref 133) (.type "type") = some true

theorem kind_list_new : builtinKind "list.__new__" = some .builtinFn := by decide +kernel
theorem split_list_new : splitId "list.__new__" = some ("list", "__new__") := by decide +kernel
section
variable {K : Frag} {w : World} {A : Around} {R : Result → Shared → Prop} {h : Heap} {g : Array GenState} {d : Drawn} {t : Nat} {os : OsState}
theorem made_list {M : Model} (T : MakeTop K) (X : (noTabs K).In h) : Looks M h (Bind.madeBy (.ref 133)) (some "list.__new__") := by
  obtain ⟨cd, sl, ho, e1, e2, e3, hmro, _⟩ := T.obj
  have hc : clsIn (noTabs K) 133 = some cd := by unfold clsIn; rw [ho]
  have hm : Looks M h (mroOf (.ref 133)) cd.mro := (looks_clsIn X hc).andThen .now
  intro A Q E s k q
  unfold Bind.madeBy
  refine wpAny_bind (hm A _ E s k ?_)
  rw [hmro, List.forIn_cons]
  refine wpAny_bind (wpAny_bind (wpAny_bind (wpAny_bind (wpAny_loadPart (k _ _ (X _ _ ho)) (wpAny_pure ?_)))))
  dsimp only
  rw [← Array.getElem?_toList, e3]
  exact wpAny_pure (wpAny_pure (wpAny_pure q))
theorem base_list {M : Model} (T : MakeTop K) (X : (noTabs K).In h) : Looks M h (Bind.staticBase (.ref 133)) (.ref 133) := by
  obtain ⟨cd, sl, ho, e1, e2, e3, hmro, _⟩ := T.obj
  have hc : clsIn (noTabs K) 133 = some cd := by unfold clsIn; rw [ho]
  have hm : Looks M h (mroOf (.ref 133)) cd.mro := (looks_clsIn X hc).andThen .now
  intro A Q E s k q
  unfold Bind.staticBase
  refine wpAny_bind (hm A _ E s k ?_)
  rw [hmro, List.forIn_cons]
  exact wpAny_bind (wpAny_bind (wpAny_bind (made_list T X A _ E s k (wpAny_pure (wpAny_pure (wpAny_pure q))))))

theorem new_list (T : MakeTop K) (P : PileTop K) (X : (noTabs K).In h) (hq : ∀ h' x dx, h.get? x = none → h.get? dx = none → (∀ b o, h.get? b = some o → h'.get? b = some o) → h'.get? x = some (pileObj dx [] 0) → h'.get? dx = some (dicObj #[] 0) → R (.ok (.ret (.ref x))) ⟨h', g, d, t, os⟩) :
    codeAny (model PG w) A (.call (.builtin "list.__new__") ⟨[.ref 133], []⟩) R ⟨h, g, d, t, os⟩ := by
  obtain ⟨cd, sl, ho, e1, e2, e3, hmro, hdict⟩ := T.obj
  have hC := X _ _ ho
  have made := made_list (M := model PG w) T X
  have base := base_list (M := model PG w) T X
  have sub : Looks (model PG w) h (isSubtype (.ref 133) (.type "list")) true := looks_mroIn X P.isList
  have ist : ∀ {A : Around} {E : Value → Shared → Prop} {Q : Bool → Shared → Prop}, Q true ⟨h, g, d, t, os⟩ → wpAny (model PG w) A (isType (.ref 133)) Q E ⟨h, g, d, t, os⟩ := fun hq => ks_wpAny_isType_cls hC rfl hq
  refine codeAny_call_builtin_code (plainId_quiet F.plain_list_new _) ?_
  simp only [checkBuiltinCall, kind_list_new, split_list_new]
  rw [if_pos (show ("__new__" == "__new__") = true from by decide)]
  refine wpAny_bind (ist ?_)
  simp only [Bool.not_true, Bool.false_eq_true, if_false]
  refine wpAny_bind (sub.at ?_)
  simp only [Bool.not_true, Bool.false_eq_true, if_false]
  refine wpAny_bind (base.at ?_)
  refine wpAny_bind (made.at ?_)
  dsimp only
  rw [if_neg (by decide +kernel)]
  have sg : (match Manifest.signature? "list.__new__" with | some sig => Bind.checkArgs "list.__new__" sig ⟨[.ref 133], []⟩ | _ => pure ()) = pure () := by kernel_rfl
  refine wpAny_of_eq sg ?_
  refine codeAny_builtin_stack F.entry_list_new rfl fun p st => ?_
  rw [Around.under_plainId F.plain_list_new _]
  have hown := owner_list_new
  try simp only [hown]
  refine wpAny_bind (ist ?_)
  simp only [Bool.not_true, Bool.false_eq_true, if_false]
  refine wpAny_bind (sub.at ?_)
  simp only [Bool.not_true, Bool.false_eq_true, if_false]
  refine wpAny_bind (wpAny_pure ?_)
  rw [if_neg (by decide)]
  simp only [newDict, newObj]
  refine wpAny_bind (wpAny_bind (wpAny_alloc (wpAny_pure ?_)))
  dsimp only
  refine wpAny_bind ?_
  rw [if_neg (by rw [sizeLine_eq]; decide)]
  unfold newObjAsIs classHasDel
  refine wpAny_bind (wpAny_alloc (wpAny_bind (wpAny_bind (wpAny_load (Heap.get?_push_of_some _ (Heap.get?_push_of_some _ hC)) (wpAny_pure ?_)))))
  rw [e2]
  refine wpAny_pure (wpAny_pure ?_)
  show R _ _
  have hx := Heap.get?_push_size (h.push { cls := .type "dict", data := .dict #[] }) (o := { cls := .ref 133, dict := some h.objs.size, data := .seq #[] }) rfl
  have hd := Heap.get?_push_of_some ({ cls := .ref 133, dict := some h.objs.size, data := .seq #[] } : Obj) (Heap.get?_push_size h (o := { cls := .type "dict", data := .dict #[] }) rfl)
  exact hq _ _ h.objs.size (fresh_size (by rw [Heap.size_push]; exact Nat.le_succ _)) (fresh_size (Nat.le_refl _)) (fun b o e => Heap.get?_push_of_some _ (Heap.get?_push_of_some _ e)) hx hd

theorem make_pile (T : MakeTop K) (P : PileTop K) (X : (noTabs K).In h)
    (hq : ∀ A' h' x dx, A'.depth ≤ A.depth + 3 → A'.handled = A.handled → A'.units ≤ A.units + 20 → h.get? x = none → h.get? dx = none → (∀ b o, h.get? b = some o → h'.get? b = some o) → h'.get? x = some (pileObj dx [] 0) → h'.get? dx = some (dicObj #[] 0) →
      wpAny (model PG w) A' (call (.ref 72) [.ref x]) (fun v s' => v = .none ∧ R (.ok (.ret (.ref x))) s') (fun e s' => R (.error e) s') ⟨h', g, d, t, os⟩) :
    codeAny (model PG w) A (.call (.ref 133) ⟨[], []⟩) R ⟨h, g, d, t, os⟩ := by
  obtain ⟨cd, sl, ho, e1, e2, e3, hmro, hdict⟩ := T.obj
  have hC := X _ _ ho
  have made := made_list (M := model PG w) T X
  have call := looks_specialIn (M := model PG w) X T.call
  have typ := looks_instIn (M := model PG w) X T.typ
  have hc : clsIn (noTabs K) 133 = some cd := by unfold clsIn; rw [ho]
  have hm : Looks (model PG w) h (mroOf (.ref 133)) cd.mro := (looks_clsIn X hc).andThen .now
  have e4 : cd.mro.isEmpty = false := by rw [hmro]; rfl
  have self := looks_mroIn (M := model PG w) X (show mroIn (noTabs K) 133 (.ref 133) = some true by unfold mroIn; rw [hc, Option.bind_some, hmro]; rfl)
  have hi := looks_findIn (M := model PG w) X T.init
  refine codeAny_of_tree ?_
  show wpAny _ _ (callAny (.ref 133) _) _ _ _
  refine nd_load hC ?_
  show wpAny _ _ (callAny.viaDunder (.ref 133) _) _ _ _
  unfold callAny.viaDunder
  refine wpAny_bind (call.at ?_)
  dsimp only
  rw [tc_bind]
  refine wpAny_bind (wpAny_pure (wpAny_bind (wpAny_pure ?_)))
  refine wpAny_pure (a := Fin.again (.call (.builtin "type.__call__") ⟨[.ref 133], []⟩)) (And.intro rfl ?_)
  refine codeAny_call_builtin_at (Code.quiet_builtin _ (by decide +kernel)) entry_typeCall (check_slot tc_kind tc_split typ (tc_args _ _ _) ?_)
  unfold Builtin.«type.__call__»
  repeat (first | simp only [e4, Bool.false_eq_true, if_false] | with_reducible refine wpAny_call ?_ | lk)
  refine new_list T P X fun h' x dx hx0 hd0 k hx hd => ?_
  dsimp only
  have t1 : Looks (model PG w) h' (typeOf (.ref x)) (.ref 133) := pile_type hx
  refine wpAny_bind ((show Looks (model PG w) h' (isInstance (.ref x) (.ref 133)) true from t1.andThen (self.keeps k)).at ?_)
  simp only [Bool.not_true, Bool.false_eq_true, if_false]
  refine wpAny_bind (wpAny_holding ?_)
  unfold callSpecial?
  refine wpAny_bind ((show Looks (model PG w) h' (specialOf (.ref x) "__init__") (some (.ref 72)) from t1.andThen (hi.keeps k)).at ?_)
  dsimp only
  refine wpAny_holding (wpAny_bind ((bind_fn (X.keeps k) (.ref x) T.initF).at (wpAny_bind ?_)))
  refine wpAny_mono (hq _ h' x dx ?_ ?_ ?_ hx0 hd0 k hx hd) (fun v s' hv => ?_) fun _ _ e => e
  · show A.depth + _ ≤ _
    have : (Code.builtin "type.__call__" ⟨[.ref 133], []⟩).weight ≤ 3 := by decide +kernel
    exact Nat.add_le_add_left this _
  · rfl
  · show A.units + _ ≤ _
    have : (Code.builtin "type.__call__" ⟨[.ref 133], []⟩).cUnits ≤ 20 := by decide +kernel
    exact Nat.add_le_add_left this _
  · obtain ⟨rfl, hv⟩ := hv
    refine wpAny_pure ?_
    dsimp only
    rw [if_neg (by decide)]
    exact wpAny_pure hv
end
end Mine
end

section
open PySem PySem.W PyProof.Rows PySem.Calls
set_option maxHeartbeats 4000000
namespace Mine

theorem slot_wd_get : Slot "wrapper_descriptor" "__get__" "wrapper_descriptor.__get__" := .of (owner := "wrapper_descriptor") (n := "__get__") (by rw [typeLookup_type, builtinLookup_eq_fast]; kernel_rfl) (by decide +kernel) (by decide +kernel) (by decide +kernel)
  (by first | exact .inl (by decide +kernel) | exact .inr (by decide +kernel)) (by rw [isSubtype_type]; kernel_rfl)
theorem entry_wd_get : entryFor table "wrapper_descriptor.__get__" = some Builtin.«wrapper_descriptor.__get__» := entryFor_of_tree (by kernel_rfl)
theorem args_wd_get (a b c : Value) : argsOk "wrapper_descriptor.__get__" ⟨[a, b, c], []⟩ := by unfold argsOk; kernel_rfl
theorem type_list_init : typeOf (.builtin "list.__init__") = pure (.type "wrapper_descriptor") := by kernel_rfl
theorem along_list_init (K : Frag) : alongIn K "__init__" [.type "list", .type "object"] = some (some (.builtin "list.__init__")) := by kernel_rfl

abbrev superObj (x : Addr) : Obj := { cls := .type "super", dict := none, data := .fields #[.ref 133, .ref x, .ref 133], slots := #[] }
abbrev wrapObj (x : Addr) : Obj := { cls := .type "method-wrapper", dict := none, data := .fields #[.builtin "list.__init__", .ref x], slots := #[] }

section
variable {K : Frag} {w : World} {A : Around} {E : Value → Shared → Prop} {h : Heap} {g : Array GenState} {d : Drawn} {t : Nat} {os : OsState} {x dx so : Addr} {vs : List Value} {n : Nat}

theorem wd_get {Q : Value → Shared → Prop} (hi : Looks (model PG w) h (isInstance (.ref x) (.type "list")) true) (c : Value) (hc : c = .ref 133)
    (hq : Q (.ref h.objs.size) ⟨h.push (wrapObj x), g, d, t, os⟩) :
    wpAny (model PG w) A (call (.builtin "wrapper_descriptor.__get__") [.builtin "list.__init__", .ref x, c]) Q E ⟨h, g, d, t, os⟩ := by
  subst hc
  have hn : (pure () : Sem Unit) = pure () := rfl
  refine wpAny_call_entry slot_wd_get (type_list_init) entry_wd_get ?_ (args_wd_get _ _ _)
  have hsp : (".".intercalate ("list.__init__".cutAt '.').dropLast) = "list" := by decide +kernel
  unfold Builtin.«wrapper_descriptor.__get__»
  repeat (first | (with_reducible refine Looks.at hi ?_) | (rw [hsp]) | wp_step | dsimp only)
  exact ⟨_, rfl, hq⟩

theorem super_ga {l₀ : List Value} {nm : Str} {tk : Tok} {Q : Fin → Shared → Prop} (hn : (nm == ("__class__" : Str)) = false) (hf : alongIn (noTabs K) nm [.type "list", .type "object"] = some (some (.builtin "list.__init__"))) (X : (noTabs K).In h) (hso : h.get? so = some (superObj x)) (hno : Looks (model PG w) h (opaqueClassAbove (.ref 133)) none)
    (hC : Looks (model PG w) h (mroOf (.ref 133)) [.ref 133, .type "list", .type "object"]) (hi : Looks (model PG w) h (isInstance (.ref x) (.type "list")) true) (hxC : x ≠ 133)
    (hq : Q (.done (.ret (.ref h.objs.size))) ⟨h.push (wrapObj x), g, d, t, os⟩) :
    wpAny (model PG w) A (Builtin.«super.__getattribute__» ⟨[.ref so, .str nm tk], []⟩) Q E ⟨h, g, d, t, os⟩ := by
  have hl : (([.ref 133, .type "list", .type "object"] : List Value).dropWhile (· != .ref 133)).drop 1 = [.type "list", .type "object"] := by decide
  have htl := type_list_init
  have hlk := slot_wd_get.lookup
  have hne : (Value.ref x == Value.ref 133) = false := by simp [hxC]
  have hdt : (superObj x).data = .fields #[.ref 133, .ref x, .ref 133] := rfl
  have f0 : (#[.ref 133, .ref x, .ref 133] : Array Value)[0]? = some (.ref 133) := rfl
  have f1 : (#[.ref 133, .ref x, .ref 133] : Array Value)[1]? = some (.ref x) := rfl
  have f2 : (#[.ref 133, .ref x, .ref 133] : Array Value)[2]? = some (.ref 133) := rfl
  unfold Builtin.«super.__getattribute__»
  repeat (first
    | (with_reducible refine wpAny_field hso hdt f0 ?_) | (with_reducible refine wpAny_field hso hdt f1 ?_) | (with_reducible refine wpAny_field hso hdt f2 ?_)
    | (with_reducible refine ks_wpAny_notOpaque hno ?_)
    | (with_reducible refine Looks.at hC ?_; rw [hl])
    | (refine ks_forIn_along X (fun _ _ => rfl) rfl ?_ hf)
    | (with_reducible refine wd_get hi _ rfl ?_)
    | (simp only [hn, hne, Bool.or_false, Bool.false_eq_true, if_false])
    | wp_step
    | dsimp only)
  all_goals exact hq

theorem super_getMethod {nm : Str} {pl : Sem Bool} {Q : Value × List Value → Shared → Prop} (hn : (nm == ("__class__" : Str)) = false) (hf : alongIn (noTabs K) nm [.type "list", .type "object"] = some (some (.builtin "list.__init__")))
    (X : (noTabs K).In h) (hso : h.get? so = some (superObj x)) (hno : Looks (model PG w) h (opaqueClassAbove (.ref 133)) none)
    (hC : Looks (model PG w) h (mroOf (.ref 133)) [.ref 133, .type "list", .type "object"]) (hi : Looks (model PG w) h (isInstance (.ref x) (.type "list")) true) (hxC : x ≠ 133)
    (hq : Q (.ref h.objs.size, []) ⟨h.push (wrapObj x), g, d, t + 1, os⟩) :
    wpAny (model PG w) A (getMethod (.ref so) nm pl) Q E ⟨h, g, d, t, os⟩ := by
  have hlk := F.ks_slot_super_ga.lookup
  have hcan := F.ks_canon_super_ga
  have hT : ∀ t', (⟨h, g, d, t', os⟩ : Shared).TypeIs (.ref so) "super" := fun _ => ⟨_, hso, rfl⟩
  unfold getMethod
  refine wpAny_bind (wpAny_specialOf (hT _) hlk ?_)
  show wpAny _ _ (if (Manifest.canonical "super.__getattribute__" != "object.__getattribute__") = true then _ else _) _ _ _
  rw [if_pos hcan]
  unfold getAttr getAttrBy
  refine wpAny_bind (wpAny_bind (wpAny_mkText (wpAny_holding (wpAny_bind (wpAny_typeOf (hT _) (wpAny_bind (wpAny_of_eq hlk ?_)))))))
  show wpAny _ _ (getAttrByItsOwn (.ref so) (.str nm t) (.type "super") (.builtin "super.__getattribute__") true false) _ _ _
  unfold getAttrByItsOwn hookBefore callGetattribute boundAndCalled
  refine wpAny_bind (wpAny_of_eq (show (if onTheHeap (.type "super") then typeLookup (.type "super") "__getattr__" else pure none) = pure none from rfl) ?_)
  refine wpAny_bind (wpAny_attempt (wpAny_holding ?_))
  show wpAny _ _ (bindSpecial (.builtin "super.__getattribute__") (.ref so) >>= _) _ _ _
  refine wpAny_bind (wpAny_of_eq (F.ks_slot_super_ga.bind _) ?_)
  refine wpAny_mono (Q := fun v s' => v = .ref h.objs.size ∧ s' = ⟨h.push (wrapObj x), g, d, t + 1, os⟩) (E := fun _ _ => False)
    (wpAny_call_entry F.ks_slot_super_ga (hT _) F.ks_entry_super_ga (super_ga (l₀ := []) hn hf X hso hno hC hi hxC ⟨_, rfl, rfl, rfl⟩) (F.ks_gaArgs_super _ _)) (fun v s' hv => ?_) fun _ _ z => z.elim
  obtain ⟨rfl, rfl⟩ := hv
  exact wpAny_pure (wpAny_pure hq)

theorem kind_list_init : builtinKind "list.__init__" = some .slot := by decide +kernel
theorem wrap_call {s : Shared} {b : Addr} {Q : Value → Shared → Prop} (hb : s.heap.get? b = some (wrapObj x)) (hx : s.heap.get? x = some (pileObj dx [] n))
    (hq : ∀ h' n', h'.get? x = some (pileObj dx [] n') → Heap.SameBut x s.heap h' → Q .none { s with heap := h' }) :
    wpAny (model PG w) A (call (.ref b) []) Q E s := by
  refine wpAny_call (codeAny_of_tree ?_)
  show wpAny _ _ (callAny (.ref b) ⟨[], []⟩) _ _ _
  unfold callAny
  refine wpAny_bind (wpAny_load hb ?_)
  show wpAny _ _ (checkBoundCall "list.__init__" ⟨[.ref x], []⟩ >>= fun _ => again (.builtin "list.__init__" ⟨[.ref x], []⟩)) _ _ _
  have hck : checkBoundCall "list.__init__" ⟨[.ref x], []⟩ = pure () := by
    have ha := F.args_list_init_1 (.ref x)
    unfold argsOk at ha
    unfold checkBoundCall
    cases hs : Manifest.signature? "list.__init__" with
    | none => rfl
    | some sig =>
      rw [hs] at ha
      simp only [kind_list_init]
      rw [if_pos (by decide)]
      exact ha
  refine wpAny_bind (wpAny_of_eq hck (wpAny_pure ⟨plainId_quiet (by decide +kernel) _, codeAny_builtin F.entry_list_init ?_⟩))
  rw [Around.under_plainId (by decide +kernel) _]
  show wpAny _ _ (do let old ← Builtin.List.listItems (.ref x); Builtin.List.listUpdate (.ref x) (fun _ => #[]); letGo old.toList.reverse; ret .none) _ _ s
  unfold Builtin.List.listItems
  refine wpAny_bind (wpAny_bind (wpAny_seqItems hx rfl (wpAny_pure ?_)))
  show wpAny _ _ (updateSeq x (fun _ => #[]) >>= fun _ => letGo (#[] : Array Value).toList.reverse >>= fun _ => ret .none) _ _ s
  refine wpAny_bind (pile_update hx (by simp) (by simp) fun h' n' hx' hs => ?_)
  refine wpAny_bind (wpAny_letGo (wpAny_pure ?_))
  exact hq h' n' hx' hs
end
end Mine
end

section
open PySem PySem.W PyProof.Rows PySem.Calls
set_option maxHeartbeats 4000000
namespace Mine

abbrev initFd (pm doc ct : Value) : FuncData := { methOf (mAt 0) "__init__" "_Accumulator.__init__" (.ref 64) pm (.ref 71) doc with closure := [("__class__", 59)], closureTuple := ct }
structure InitTop (K : Frag) : Prop where
  fn : ∃ cl dd sl pm doc ct, K.lookup 72 = some ⟨cl, dd, .func (initFd pm doc ct), sl⟩
  code : ∃ o vs t tf, K.lookup 71 = some o ∧ o.data = .fields vs ∧ vs[1]? = some (.str "_Accumulator.__init__" t) ∧ vs[2]? = some (.str PG.main.file tf)
  cell : ∃ cl cdd sl, K.lookup 59 = some ⟨cl, cdd, .cell (some (.ref 133)), sl⟩
  opq : nsIn (noTabs K) cStatics "thirdparty.any" = some none
  gsup : nsFind (entriesOf K mainGlobals) "super" = none
  bsup : nsFind (entriesOf K builtinsNs) "super" = some (.type "super")

section
variable {K : Frag} {w : World} {A : Around} {E : Value → Shared → Prop} {x dx : Addr} {n m : Nat}
theorem call_init (T : PileTop K) (I : InitTop K) (G : GOk K) {s : Shared} (wd : Wd K s) (hA : A.depth < 1000) (ow : Own K x dx) (hx : s.heap.get? x = some (pileObj dx [] n)) (hd : s.heap.get? dx = some (dicObj #[] m)) {Q : Value → Shared → Prop}
    (hq : ∀ s' n' es m' t, s'.os = s.os → s'.gens = s.gens → (∀ b o, b ≠ x → b ≠ dx → s.heap.get? b = some o → s'.heap.get? b = some o) → s'.heap.get? x = some (pileObj dx [] n') → s'.heap.get? dx = some (dicObj es m') → IniDict es (.int 0 t) → Q .none s') :
    wpAny (model PG w) A (call (.ref 72) [.ref x]) Q E s := by
  obtain ⟨cl, dd, sl, pm, doc, fct, hf⟩ := I.fn
  obtain ⟨oc, cvs, ct, tf, hc, hcd, hq1, hq2⟩ := I.code
  obtain ⟨ccl, ccd, csl, hcell⟩ := I.cell
  obtain ⟨t64, n64, h64⟩ := T.d64
  have hxd : x ≠ dx := by rintro rfl; rw [hx] at hd; cases hd
  refine wpAny_call (ks_codeAny_call_defAt (fd := initFd pm doc fct) (binds := [("self", .ref x), ("initial_size", .int 0 t64)]) hA (wd.st _ _ hf (by decide)) rfl (wd.noLimit G) ⟨71, oc, cvs, ct, rfl, wd.st _ _ hc (by decide), hcd, hq1⟩ rfl
    (.of_defaults (T := 64) rfl (wd.st _ _ h64 (by decide)) rfl rfl rfl) (show ∀ x ∈ (scopeS (mAt 0)).names, x.2 ≠ .cell by decide) (fun y hy => by simp at hy; rcases hy with rfl | rfl <;> rfl) fun h₀ hns hk => ?_)
  obtain ⟨hh, g, d, t, os⟩ := s
  dsimp only at hx hd wd hns hk hq ⊢
  have X0 : (noTabs K).In h₀ := fun a o e => hk a o (wd.inK a o e)
  have hx0 := hk _ _ hx
  have hd0 := hk _ _ hd
  have hcls : ∃ oC cdC, h₀.get? 133 = some oC ∧ oC.data = .cls cdC ∧ cdC.mro = [.ref 133, .type "list", .type "object"] := by
    obtain ⟨cd, hcd, _, hmro⟩ := T.cls
    unfold clsIn at hcd
    split at hcd
    · rename_i c d cd' sl ho
      cases hcd
      exact ⟨_, _, X0 _ _ ho, rfl, hmro⟩
    · cases hcd
  obtain ⟨oC, cdC, hC1, hC2, hmro⟩ := hcls
  have hx133 : x ≠ 133 := by rintro rfl; rw [hx0] at hC1; cases hC1; cases hC2
  have hLx : hh.objs.size ≠ x := (Nat.ne_of_lt (Heap.lt_size hx)).symm
  have hLd : hh.objs.size ≠ dx := (Nat.ne_of_lt (Heap.lt_size hd)).symm
  refine ks_wpAt_execs_cons (ks_wpAt_Assign_Attr (wpAt_of_wpAny (wpAny_Name (wpAny_loadName_local rfl rfl hns rfl ?_) (by decide))))
  refine wpAny_Name (wpAny_loadName_local rfl rfl hns rfl ?_) (by decide)
  refine pile_setAttr T X0 hx0 hd0 (.inl rfl) fun h1 tk es1 m1 hd1 hi1 hs1 => ?_
  have X1 : (noTabs K).In h1 := fun a o e => hs1.extBut a o (by have := ow a o (noTabs_lookup e).1; exact this.2) (X0 a o e)
  have hx1 : h1.get? x = some (pileObj dx [] n) := hs1.extBut _ _ hxd hx0
  have hns1 := hns.sameBut hs1 hLd
  have hC1' : h1.get? 133 = some oC := hs1.extBut _ _ (by rintro rfl; rw [hd0] at hC1; cases hC1; cases hC2) hC1
  have hfn1 := hs1.extBut _ _ (ow _ _ hf).2 (hk _ _ (wd.st _ _ hf (by decide)))
  have hcc1 := hs1.extBut _ _ (ow _ _ hc).2 (hk _ _ (wd.st _ _ hc (by decide)))
  have hce1 := hs1.extBut _ _ (ow _ _ hcell).2 (hk _ _ (wd.st _ _ hcell (by decide)))
  obtain ⟨ge, gn, hg, gk⟩ := G.glob
  obtain ⟨be, bn, hb, bk⟩ := G.blt
  have wd1 : Wd K ⟨h1, g, d, tk, os⟩ := Wd.mut (s := ⟨h₀, g, d, t + 2, os⟩) (tk := tk) ⟨fun a o e nt => hk a o (wd.st a o e nt), fun P hP => let ⟨ps, hp, ok⟩ := wd.tab P hP; ⟨ps, hk _ _ hp, ok⟩⟩ ow (.inr rfl) hs1 (fun P hP => by
    obtain ⟨ps, hp, _⟩ := wd.tab P hP
    rintro rfl
    rw [hd] at hp; cases hp)
  refine ks_wpAt_execs_cons (ks_wpAt_Expr_any (ks_wpAt_MethodCall ?_))
  refine ks_wpAt_super_base (f := 72) (cc := 71) (tf := tf) rfl rfl (by decide) rfl hfn1 rfl rfl rfl hcc1 hcd hq2 (by simp) (by decide) ?_
  refine ks_loadName_global rfl rfl (loadGlobal_builtin (mg := fun y => nsFind (entriesOf K mainGlobals) y) (wd1.ns (a := mainGlobals) (by decide) hg gk) I.gsup (wd1.ns (a := builtinsNs) (by decide) hb bk) I.bsup ⟨rfl, ?_⟩)
  refine wpAny_loadName_free rfl rfl rfl ⟨_, hce1, rfl⟩ ?_
  refine wpAny_loadName_local rfl rfl hns1 rfl ?_
  refine ks_wpAny_isType_cls hC1' hC2 ⟨rfl, ?_⟩
  have self := looks_mroIn (M := model PG w) X1 (show mroIn (noTabs K) 133 (.ref 133) = some true by obtain ⟨cd, hcd, _, hm⟩ := T.cls; unfold mroIn; rw [hcd, Option.bind_some, hm]; rfl)
  refine ks_wpAny_call_super hC1' hC2 hx1 rfl (by nofun) self fun h2 hso k2 => ?_
  have X2 : (noTabs K).In h2 := X1.keeps k2
  have hx2 := k2 _ _ hx1
  have hC2h : Looks (model PG w) h2 (mroOf (.ref 133)) [.ref 133, .type "list", .type "object"] := by
    obtain ⟨cd, hcd, _, hm⟩ := T.cls
    rw [← hm]
    exact (looks_clsIn X2 hcd).andThen .now
  refine super_getMethod (by decide) (along_list_init _) X2 hso (looks_opaque X2 I.opq) hC2h (pile_isList T X2 hx2) hx133 ?_
  have hb3 : (h2.push (wrapObj x)).get? h2.objs.size = some (wrapObj x) := Heap.get?_push_at rfl rfl
  refine callWith_of (first := []) (P := fun h => h.get? h2.objs.size = some (wrapObj x)) rfl (fun h e => ⟨.machine, .inr (.inl rfl), (Looks.ld (part := none) e).andThen .now⟩) (evalArgs_empty ⟨hb3, ?_⟩)
  refine wrap_call (dx := dx) (n := n) hb3 (Heap.get?_push_of_some _ hx2) fun h4 n4 hx4 hs4 => ?_
  refine wpAt_of_wpAny (wpAny_execs_nil ?_)
  have stay : ∀ b o, b ≠ x → b ≠ dx → hh.get? b = some o → h4.get? b = some o := fun b o h1 h2 e => hs4.extBut _ _ h1 (Heap.get?_push_of_some _ (k2 _ _ (hs1.extBut _ _ h2 (hk _ _ e))))
  exact hq _ n4 es1 m1 t64 rfl rfl stay hx4 (hs4.extBut _ _ hxd.symm (Heap.get?_push_of_some _ (k2 _ _ hd1))) hi1
end
end Mine
end

section
open PySem PySem.W PyProof.Rows PySem.Calls
set_option maxHeartbeats 4000000
namespace Mine

/-- a pile that holds items -/
def IsPile (h : Heap) (x : Addr) (items : Array Value) : Prop := ∃ o n, h.get? x = some o ∧ o.cls = .ref 133 ∧ o.data = .seq items n
theorem IsPile.of {h : Heap} {x dx : Addr} {vs : List Value} {n : Nat} (e : h.get? x = some (pileObj dx vs n)) : IsPile h x vs.toArray := ⟨_, n, e, rfl, rfl⟩
theorem IsPile.at' {h h' : Heap} {x : Addr} {items : Array Value} (p : IsPile h x items) (k : ∀ o, h.get? x = some o → h'.get? x = some o) : IsPile h' x items := let ⟨o, n, e, r⟩ := p; ⟨o, n, k o e, r⟩

section
variable {K : Frag} {w : World} {A : Around} {E : Value → Shared → Prop} {s : Shared} {x dx : Addr} {vs : List Value} {n : Nat}
theorem pile_iter {Q : Value → Shared → Prop} (T : PileTop K) (X : (noTabs K).In s.heap) (hx : s.heap.get? x = some (pileObj dx vs n))
    (hQ : Q (.ref s.heap.objs.size) { s with heap := s.heap.push { cls := .type "list_iterator", data := .fields #[.ref x, .int 0 0] } }) : wpAny (model PG w) A (pyIter (.ref x)) Q E s := by
  unfold pyIter
  refine wpAny_bind ((pile_special X hx T.iter).here ?_)
  dsimp only
  refine wpAny_bind ?_
  unfold callSpecialIfBoundUnlessNone? bindSpecialIfBound?
  refine wpAny_holding (wpAny_bind (wpAny_bind ((pile_special X hx T.iter).here ?_)))
  dsimp only
  have hb : bindSpecial (.builtin "list.__iter__") (.ref x) = pure (.builtin "list.__iter__", [.ref x]) := slot_list_iter.bind _
  simp only [hb]
  have fin : wpAny (model PG w) A (if (Value.builtin "list.__iter__" == Value.none) = true then (do rule "iter.none"; raiseError "TypeError" s!"'{← typeNameOf (.ref x)}' object is not iterable" : Sem Value) >>= fun v => pure (some v) else call (.builtin "list.__iter__") [.ref x] >>= fun v => pure (some v))
      (fun r s' => wpAny (model PG w) A (match r with
        | some it => specialOf it "__next__" >>= fun r => match r with
          | none => (do rule "iter.non-iterator"; raiseError "TypeError" s!"iter() returned non-iterator of type '{← typeNameOf it}'" : Sem Value)
          | some _ => pure it
        | none => (bindSpecialIfBound? (.ref x) "__getitem__" >>= fun r => match r with
          | none => (do rule "iter.not-iterable"; raiseError "TypeError" s!"'{← typeNameOf (.ref x)}' object is not iterable" : Sem Value)
          | some _ => (do rule "iter.getitem-fallback"; newFields "iterator" [.ref x, ← mkInt 0] : Sem Value))) Q E s') E s := by
    rw [if_neg (by decide)]
    refine wpAny_bind (pile_call (.inl (by decide +kernel)) (nm := "__iter__") (by decide +kernel) (by decide +kernel) entry_list_iter (pile_isList T X hx) (args_list_iter _) ?_)
    show wpAny _ _ (do ret (← newFields "list_iterator" [.ref x, rawInt 0])) _ _ s
    refine wpAny_bind (wpAny_newObj_type (wpAny_pure ⟨_, rfl, wpAny_pure ?_⟩))
    have hT : Shared.TypeIs { s with heap := s.heap.push { cls := .type "list_iterator", data := .fields #[.ref x, .int 0 0] } } (.ref s.heap.objs.size) "list_iterator" := ⟨_, Heap.get?_push_size _ rfl, rfl⟩
    exact wpAny_bind (wpAny_specialOf hT slot_listiter_next.lookup (wpAny_pure hQ))
  refine wpAny_bind (wpAny_askSetting (wpAny_ite ?_))
  split
  · exact wpAny_bind (wpAny_pure (wpAny_pure fin))
  · exact wpAny_tryCatch (wpAny_bind (wpAny_pure (wpAny_pure fin)))

theorem pile_next {it : Addr} {i : Nat} {items : Array Value} {v : Value} {Q : Option Value → Shared → Prop} (hit : s.heap.IsListIter it x i)
    (hl : IsPile s.heap x items) (hx : items[i]? = some v)
    (hQ : ∀ h', h'.IsListIter it x (i + 1) → Heap.SameBut it s.heap h' → Q (some v) { s with heap := h' }) : wpAny (model PG w) A (pyNext (.ref it)) Q E s := by
  obtain ⟨o, ho, hc, hd⟩ := id hit
  obtain ⟨ol, nl, hol, _, hdl⟩ := hl
  unfold pyNext
  refine wpAny_bind (wpAny_attempt (wpAny_callSpecial?_slot (name := Str.ofString "__next__") hit.typeIs slot_listiter_next
    (wpAny_call_entry slot_listiter_next hit.typeIs entry_listiter_next ?_ (args_listiter_next _))))
  show wpAny _ _ (field (.ref it) 0 >>= _) _ _ s
  refine wpAny_bind (wpAny_field ho hd (x := .ref x) rfl ?_)
  show wpAny _ _ (if (Value.ref x == Value.none) = true then _ else _) _ _ s
  rw [if_neg (show ¬ ((Value.ref x == Value.none) = true) from Bool.false_ne_true)]
  show wpAny _ _ (field (.ref it) 1 >>= _) _ _ s
  refine wpAny_bind (wpAny_field ho hd (x := .int i 0) rfl ?_)
  show wpAny _ _ (seqItems? (.ref x) >>= _) _ _ s
  refine wpAny_bind (wpAny_seqItems hol hdl ?_)
  simp only [Int.toNat_natCast, hx]
  refine wpAny_bind (wpAny_setField ho hd (by simp) (wpAny_pure ⟨v, rfl, wpAny_pure (hQ _ ?_ (Heap.SameBut.update ..))⟩))
  exact ⟨_, Heap.get?_update_self _ ho (Obj.isFreed_of_fields (Obj.data_mapFields hd _)), (Obj.cls_mapFields ..).trans hc, by
    rw [Obj.data_mapFields hd]; simp [rawInt]⟩

theorem pile_end {it : Addr} {i : Nat} {items : Array Value} {Q : Option Value → Shared → Prop} (hh : A.handled = none)
    (hit : s.heap.IsListIter it x i) (hl : IsPile s.heap x items) (hx : items[i]? = none)
    (hQ : ∀ h', Heap.ExtBut it s.heap h' → Q none { s with heap := h' }) : wpAny (model PG w) A (pyNext (.ref it)) Q E s := by
  obtain ⟨o, ho, hc, hd⟩ := id hit
  obtain ⟨ol, nl, hol, _, hdl⟩ := hl
  unfold pyNext
  refine wpAny_bind (wpAny_attempt (wpAny_callSpecial?_slot (name := Str.ofString "__next__") hit.typeIs slot_listiter_next
    (wpAny_call_entry slot_listiter_next hit.typeIs entry_listiter_next ?_ (args_listiter_next _))))
  show wpAny _ _ (field (.ref it) 0 >>= _) _ _ s
  refine wpAny_bind (wpAny_field ho hd (x := .ref x) rfl ?_)
  show wpAny _ _ (if (Value.ref x == Value.none) = true then _ else _) _ _ s
  rw [if_neg (show ¬ ((Value.ref x == Value.none) = true) from Bool.false_ne_true)]
  show wpAny _ _ (field (.ref it) 1 >>= _) _ _ s
  refine wpAny_bind (wpAny_field ho hd (x := .int i 0) rfl ?_)
  show wpAny _ _ (seqItems? (.ref x) >>= _) _ _ s
  refine wpAny_bind (wpAny_seqItems hol hdl ?_)
  simp only [Int.toNat_natCast, hx]
  refine wpAny_bind (wpAny_rule (wpAny_bind (wpAny_setField ho hd (by simp) ?_)))
  show wpAny _ _ (newExc (.type "StopIteration") [] >>= _) _ _ _
  refine wpAny_bind ?_
  simp only [newExc, newTuple]
  refine wpAny_bind (wpAny_newObj_type ?_ (by size_fits))
  refine wpAny_bind (m := firstArgMember _ _) (wpAny_of_eq (a := Value.none) (by first | rfl | (simp only [firstArgMember]; rfl)) ?_)
  refine wpAny_newObj_type ?_ (by size_fits)
  simp only [raiseNew]
  refine wpAny_bind (wpAny_handled ?_)
  rw [show A.in1.handled = none from hh]
  refine wpAny_bind (wpAny_pure (wpAny_throw ?_))
  refine wpAny_bind (wpAny_isInstance (T := "StopIteration") (b := true) ⟨_, Heap.get?_push_size _ rfl, rfl⟩ isSubtype_stop ?_)
  exact wpAny_pure (hQ _ (((Heap.SameBut.update ..).extBut.push _).push _))
end

theorem walks_pile {w : World} {A : Around} (hh : A.handled = none) (I ax : Addr) (hne : ax ≠ I) (items : Array Value) :
    Walks PG w A I [I, ax] [I] items.size (fun i v => items[i]? = some v) (fun i h => h.IsListIter I ax i ∧ IsPile h ax items) where
  sub := fun b hb => by simp at hb; simp [hb]
  frame := fun _ _ _ st hk => ⟨st.1.at fun o e => hk I (by simp) o e, st.2.at' fun o e => hk ax (by simp) o e⟩
  item := fun i s Q E hi st hQ => by
    refine pile_next st.1 st.2 (v := items[i]) (by simp [hi]) fun h' hit' hs' => ?_
    exact hQ _ h' s.toks (by simp [hi]) ⟨hit', st.2.at' fun o e => hs'.extBut _ _ hne e⟩ fun b o hb e => hs'.extBut b o (fun h => hb (by simp [h])) e
  done := fun s Q E st hQ => pile_end hh st.1 st.2 (by simp) fun h' he' => hQ h' s.toks fun b o hb e => he' b o (fun h => hb (by simp [h])) e
  self := fun _ _ _ _ st hQ => wpAny_pyIter_listiter st.1 hQ

theorem walksU_pile {w : World} {A : Around} (hh : A.handled = none) (I ax : Addr) (hne : ax ≠ I) (items : Array Value) (Ts : Nat → Addr) (vals : Nat → Array Value)
    (hit : ∀ j, j < items.size → items[j]? = some (.ref (Ts j))) (hTI : ∀ j, j < items.size → Ts j ≠ I) :
    WalksU PG w A I (I :: ax :: (List.range items.size).map Ts) [I] items.size (fun j v => j < items.size ∧ v = vals j)
      (fun j h => h.IsListIter I ax j ∧ IsPile h ax items ∧ ∀ k, k < items.size → h.IsTuple (Ts k) (vals k))
      (fun j T h => (j < items.size ∧ T = Ts j) ∧ h.IsListIter I ax (j + 1) ∧ IsPile h ax items ∧ ∀ k, k < items.size → h.IsTuple (Ts k) (vals k)) where
  sub := fun b hb => by simp at hb; simp [hb]
  frame := fun _ _ _ st hk => ⟨st.1.at fun o e => hk I (by simp) o e, st.2.1.at' fun o e => hk ax (by simp) o e,
    fun k hk' => (st.2.2 k hk').at fun o e => hk (Ts k) (List.mem_cons_of_mem _ (List.mem_cons_of_mem _ (List.mem_map.mpr ⟨k, List.mem_range.mpr hk', rfl⟩))) o e⟩
  item := fun i s Q E hi st hQ => by
    refine pile_next st.1 st.2.1 (v := .ref (Ts i)) (hit i hi) fun h' hit' hs' => ?_
    have tup : ∀ k, k < items.size → h'.IsTuple (Ts k) (vals k) := fun k hk' => (st.2.2 k hk').extBut hs'.extBut (hTI k hk')
    exact hQ (Ts i) (vals i) h' s.toks ⟨hi, rfl⟩ (tup i hi) ⟨⟨hi, rfl⟩, hit', st.2.1.at' fun o e => hs'.extBut _ _ hne e, tup⟩ fun b o hb e => hs'.extBut b o (fun h => hb (by simp [h])) e
  go := fun _ _ _ _ _ s Q _ hm hQ => wpAny_letOwnedTupleGo_listiter hm.2.1 (hQ s.heap hm.2 fun _ _ _ e => e)
  apart := fun j T _ hm hmem => by
    rcases List.mem_cons.mp hmem with e | e
    · exact hTI j hm.1.1 (hm.1.2 ▸ e)
    · cases e
  done := fun s Q E st hQ => pile_end hh st.1 st.2.1 (by simp) fun h' he' => hQ h' s.toks fun b o hb e => he' b o (fun h => hb (by simp [h])) e
  self := fun _ _ _ _ st hQ => wpAny_pyIter_listiter st.1 hQ

/-- the pile as a source of a loop -/
def kcP (o : Obj) : Prop := isIt o ∨ o.cls = .ref 133
theorem kcP.notTab {o : Obj} : kcP o → NotTab o
  | .inl ⟨n, _, h, _⟩ => .inl (by rw [h]; nofun)
  | .inr h => .inl (by rw [h]; nofun)
theorem It.pile {c : Cx} {e : Expr} {x dx : Addr} {xs : List F} (T : PileTop c.K) (h1 : Ev c e (.pile x dx xs)) : It c e kcP xs := It.mk fun ok s Q inv h => by
  refine h1 ok s _ inv fun v s1 i1 u1 r1 _ => ?_
  obtain ⟨rfl, vs, n, es, m, p⟩ := pileAt_of r1
  have ho := p.obj
  have q := p.reps
  have hne : x ≠ s1.heap.objs.size := Nat.ne_of_lt (Heap.lt_size ho)
  refine pile_iter T i1.wd.inK ho ?_
  refine h s1.heap.objs.size _ _ _ _ (i1.push0 ok _ _) (u1.trans Up.push) (Wk.of (h0 := s1.heap) (fp := [s1.heap.objs.size, x]) (P := fun i v => vs.toArray[i]? = some v)
    (St := fun i h => h.IsListIter s1.heap.objs.size x i ∧ IsPile h x vs.toArray) (fun A hA => by have := walks_pile (w := c.w) hA s1.heap.objs.size x hne vs.toArray; rwa [show vs.toArray.size = xs.length by simp [q.length]] at this)
    (fun i hh st => let ⟨o, ho, hc, hd⟩ := st.1; ⟨o, _, _, ho, hc, hd, by decide⟩) (fun i v hv => q.get' (by simpa using hv)) (fun i hh st b hb o e => by
      obtain ⟨⟨o1, h1, c1, d1⟩, o2, n2, h2, c2, d2⟩ := st
      simp at hb
      rcases hb with rfl | rfl
      · rw [e] at h1; cases h1; exact .inl ⟨_, _, c1, d1⟩
      · rw [e] at h2; cases h2; exact .inr c2))
    ⟨⟨⟨_, Heap.get?_push_size _ rfl, rfl, rfl⟩, (IsPile.of ho).at' fun _ e => Heap.get?_push_of_some _ e⟩, .of fun _ _ e => Heap.get?_push_of_some _ e⟩ (fun b hb => u1.none (hb ▸ fresh_size (Nat.le_refl _))) (fun b hb => ?_) (fun b hb => by simp [hb])
  simp at hb
  rcases hb with rfl | rfl
  · exact ⟨_, Heap.get?_push_size _ rfl⟩
  · exact ⟨_, Heap.get?_push_of_some _ ho⟩
end Mine
end

section
open PySem PySem.W PyProof.Rows PySem.Calls
set_option maxHeartbeats 4000000
namespace Mine

def StIn (K : Frag) (h : Heap) : Prop := ∀ a o, K.lookup a = some o → a ∉ tabs → h.get? a = some o
theorem StIn.ns {K : Frag} {h : Heap} (x : StIn K h) {a : Addr} (ha : a ∉ tabs) {cl : Value} {es : Array DictEntry} {n : Nat} (e : K.lookup a = some ⟨cl, none, .dict es n, #[]⟩) (k : StrKeys es) :
    h.Ns a (fun y => nsFind (entriesOf K a) y) := ⟨_, es, n, x _ _ e ha, rfl, k, fun y => by unfold entriesOf; rw [e]⟩

section
variable {K : Frag} {w : World} {A : Around} {E : Value → Shared → Prop} {s : Shared} {env : Env}
theorem g_name {x : Str} {pos : Pos} {v : Value} {Q : Value → Shared → Prop} (G : GOk K) (X : StIn K s.heap) (hkind : env.scope.kind = .function) (hk : env.kindOf x = some .globalImplicit) (hgl : env.globals = mainGlobals) (hbl : env.builtins = builtinsNs)
    (hv : gval K x = some v) (hd : (x == ("__debug__" : Str)) = false) (h : Q v s) : wpAny (model PG w) A (eval (.Name x pos) env) Q E s := by
  refine wpAny_Name ?_ hd
  rw [loadName_read hkind hk]
  obtain ⟨es, n, h1, k1⟩ := G.glob
  obtain ⟨es', n', h2, k2⟩ := G.blt
  have n1 := X.ns (by decide) h1 k1
  have n2 := X.ns (by decide) h2 k2
  unfold gval at hv
  split at hv
  · rename_i v' e
    cases hv
    exact loadGlobal_global (by rw [hgl]; exact n1) e h
  · rename_i e
    exact loadGlobal_builtin (by rw [hgl]; exact n1) e (by rw [hbl]; exact n2) hv h
theorem g_loc {x : Str} {pos : Pos} {v : Value} {m : Str → Option Value} {Q : Value → Shared → Prop} (hkind : env.scope.kind = .function) (hk : env.kindOf x = some .local) (n : s.heap.Ns env.locals m) (e : m x = some v) (hd : (x == ("__debug__" : Str)) = false) (h : Q v s) :
    wpAny (model PG w) A (eval (.Name x pos) env) Q E s := wpAny_Name (wpAny_loadName_local hkind hk n e h) hd
theorem g_len {x : Str} {p q pos : Pos} {l : List Nat} {t : Tok} {m : Str → Option Value} {Q : Value → Shared → Prop} (G : GOk K) (X : StIn K s.heap) (hkind : env.scope.kind = .function) (hk : env.kindOf x = some .local) (hkl : env.kindOf "len" = some .globalImplicit) (hgl : env.globals = mainGlobals) (hbl : env.builtins = builtinsNs)
    (hv : gval K "len" = some (.builtin "len")) (n : s.heap.Ns env.locals m) (e : m x = some (.str ⟨l.toArray⟩ t)) (hd : (x == ("__debug__" : Str)) = false) (hs : l.length ≤ 1000000)
    (h : ∀ t' tk, Q (.int l.length t') { s with toks := tk }) : wpAny (model PG w) A (eval (.Call (.Name "len" p) [.Name x q] [] pos) env) Q E s := by
  refine wpAny_Call_NameR (g_name G X hkind hkl hgl hbl hv (by decide) ?_)
  refine callWith_of (first := []) (P := fun _ => True) rfl (fun h _ => ⟨.machine, .inr (.inl rfl), Looks.of_pure rfl⟩) (evalArgs_plain (wpAny_items_cons (g_loc hkind hk n e hd (wpAny_items_nil ⟨trivial, ?_⟩))))
  have e' : (⟨l.toArray⟩ : Str).length = l.length := by simp [Str.length]
  refine P.len_str (by rw [e']; omega) ?_
  rw [e']
  exact h _ _
end

/-- what stands of a code with a generator expression -/
structure CodeTop (K : Frag) (cc P : Addr) (pos : Pos) : Prop where
  code : ∃ vs, K.lookup cc = some ⟨.type "code", none, .fields vs, #[]⟩ ∧ vs[11]? = some (.ref P) ∧ (∃ f t, vs.getD 18 .none = .str f t) ∧ (∃ f t, vs.getD 7 .none = .int f t) ∧ (∃ b, vs.getD 9 .none = .bool b) ∧ (∃ f t, vs.getD 10 .none = .int f t)
  nt : cc ∉ tabs
  tab : P ∈ tabs
  old : ∀ ps, TabOk P ps → ps = #[] ∨ ∃ cv, codeAmong pos ps.toList = some cv
  new : ∀ c', TabOk P #[rawInt pos.line, rawInt pos.col, c']
structure GenTop (K : Frag) : Prop where
  bm : ∃ b, nsFind (entriesOf K mainGlobals) "__builtins__" = some (.ref b) ∧ b ≠ builtinsNs ∧ b ∉ tabs ∧ K.lookup b = some ⟨.type "module", some builtinsNs, .plain, #[]⟩

/-- a generator over n items that satisfy F -/
def GenOk (w : World) (A : Around) (s : Shared) (a : Addr) (n : Nat) (F : Nat → Value → Prop) (s' : Shared) : Prop :=
  ∃ fp wr g St, WalksS PG w A.in4 a fp wr (GenOnlyQ g) n F St ∧ St 0 s' ∧ (∀ i t, St i t → t.TypeIs (.ref a) "generator") ∧ a ∈ fp ∧ (∀ b ∈ fp, b < s'.heap.objs.size) ∧ ∀ b ∈ wr, s.heap.get? b = none

theorem Up.moved {s s1 s2 : Shared} {wr : List Addr} {g : Nat} (u : Up s s1) (hw : ∀ b ∈ wr, s.heap.get? b = Option.none) (m : Moved wr (GenOnlyQ g) s1 s2) : Up s s2 := by
  have nw : ∀ b o, s.heap.get? b = some o → b ∉ wr := fun b o e hb => by rw [hw b hb] at e; cases e
  exact ⟨m.os.trans u.os, fun h => m.gens.bare (u.gens h), fun b o e h => m.heap b o (nw b o e) (u.keep b o e h), fun P hP ps e => let ⟨more, e'⟩ := u.tab P hP ps e; ⟨more, m.heap _ _ (nw _ _ e) e'⟩,
    fun b o e => let ⟨o', e'⟩ := u.there b o e; ⟨o', m.heap _ _ (nw _ _ e) e'⟩⟩
theorem Wd.moved {K : Frag} {s s1 s2 : Shared} {wr : List Addr} {g : Nat} (wd0 : Wd K s) (wd : Wd K s1) (hw : ∀ b ∈ wr, s.heap.get? b = none) (m : Moved wr (GenOnlyQ g) s1 s2) : Wd K s2 := by
  have nw : ∀ b o, s.heap.get? b = some o → b ∉ wr := fun b o e hb => by rw [hw b hb] at e; cases e
  exact ⟨fun a o e n => m.heap _ _ (nw _ _ (wd0.st a o e n)) (wd.st a o e n), fun P hP => let ⟨ps, hp, ok⟩ := wd.tab P hP; let ⟨ps0, hp0, _⟩ := wd0.tab P hP; ⟨ps, m.heap _ _ (nw _ _ hp0) hp, ok⟩⟩

/-- the code of a generator expression -/
theorem gen_code {K : Frag} {M : Model} {A : Around} {E : Value → Shared → Prop} {s : Shared} {env : Env} {cc P : Addr} {pos : Pos} {qual : Str} {scope : Scope} {Q : Value → Shared → Prop} (T : CodeTop K cc P pos) (wd : Wd K s) (hc : env.code = .ref cc)
    (h : ∀ code s', Up s s' → Wd K s' → s'.gens = s.gens → s.heap.objs.size ≤ s'.heap.objs.size → Q code s') : wpAny M A (genexprCode env pos qual scope) Q E s := by
  obtain ⟨vs, hK, h11, ⟨f18, t18, h18⟩, ⟨f7, t7, h7⟩, ⟨b9, h9⟩, ⟨f10, t10, h10⟩⟩ := T.code
  have hcode := wd.st _ _ hK T.nt
  obtain ⟨ps, hp, tok⟩ := wd.tab P T.tab
  have hcP : cc ≠ P := fun e => T.nt (e ▸ T.tab)
  have g11 : vs.getD 11 .none = .ref P := by rw [Array.getD_eq_getD_getElem?, h11]; rfl
  rcases T.old ps tok with rfl | ⟨cv, hcv⟩
  · refine wpAny_genexprCodeX (ps := #[]) hc ⟨_, vs, f18, t18, f7, t7, b9, f10, t10, _, hcode, rfl, g11, h18, h7, h9, h10, hp, rfl, trivial, hcP⟩ ⟨⟨_, vs, hcode, rfl, rfl, h11⟩, hp⟩ rfl fun c' h' tk hx hle hlt hcd hrec htab _ => ?_
    have htab' : h'.get? P = some (tabObj (#[] ++ #[rawInt pos.line, rawInt pos.col, .ref c'])) := htab.2
    have keep : ∀ b o, s.heap.get? b = some o → b ≠ P → h'.get? b = some o := fun b o e hb => hx b o hb e
    refine h _ _ ⟨rfl, id, fun b o e hn => ?_, fun P' hP' ps' e => ?_, fun b o e => ?_⟩ ⟨fun a o e n => keep a o (wd.st a o e n) fun e' => n (e' ▸ T.tab), fun P' hP' => ?_⟩ rfl (Nat.le_trans hle (Nat.le_of_lt hlt))
    · refine keep b o e ?_
      rintro rfl
      rw [hp] at e
      cases e
      rcases hn with hn | hn
      · exact hn T.tab
      · rcases hn with hn | hn
        · exact hn rfl
        · exact hn _ rfl
    · by_cases hb : P' = P
      · subst hb
        rw [hp] at e
        cases e
        exact ⟨_, htab'⟩
      · exact ⟨#[], by rw [Array.append_empty]; exact keep _ _ e hb⟩
    · by_cases hb : b = P
      · subst hb; exact ⟨_, htab'⟩
      · exact ⟨o, keep b o e hb⟩
    · by_cases hb : P' = P
      · subst hb; exact ⟨_, htab', T.new _⟩
      · obtain ⟨ps', hp', ok'⟩ := wd.tab P' hP'
        exact ⟨ps', keep _ _ hp' hb, ok'⟩
  · unfold genexprCode codeAt
    rw [hc, if_neg (show ¬ ((Value.ref cc == Value.none) = true) from Bool.false_ne_true)]
    refine wpAny_bind (wpAny_fieldsOf hcode rfl ?_)
    rw [g11]
    refine wpAny_bind (wpAny_fieldsOf hp rfl ?_)
    rw [hcv]
    exact wpAny_pure (h _ _ (Up.refl s) wd rfl (Nat.le_refl _))

abbrev pairF (p : List Nat × List Nat) : F := .tup [.str p.1, .str p.2]
theorem pairs_at {h : Heap} {vs : List Value} {ps : List (List Nat × List Nat)} (r : RepFs h vs (ps.map pairF)) (j : Nat) (p : List Nat × List Nat) (e : ps[j]? = some p) :
    ∃ T t1 t2, vs[j]? = some (.ref T) ∧ h.IsTuple T #[.str ⟨p.1.toArray⟩ t1, .str ⟨p.2.toArray⟩ t2] := by
  obtain ⟨v, hv, rv⟩ := r.get (i := j) (x := pairF p) (by simp [e])
  cases rv with
  | tup ht q =>
    cases q with
    | cons ra q =>
      cases q with
      | cons rb q =>
        cases q
        cases ra
        cases rb
        exact ⟨_, _, _, hv, ht⟩
theorem pairs_fn {h : Heap} {vs : List Value} {ps : List (List Nat × List Nat)} (r : RepFs h vs (ps.map pairF)) :
    ∃ (Ts : Nat → Addr) (vals : Nat → Array Value), ∀ (j : Nat) (p : List Nat × List Nat), ps[j]? = some p → vs[j]? = some (.ref (Ts j)) ∧ h.IsTuple (Ts j) (vals j) ∧ ∃ t1 t2, vals j = #[.str ⟨p.1.toArray⟩ t1, .str ⟨p.2.toArray⟩ t2] := by
  have key : ∀ j : Nat, ∃ q : Addr × Array Value, ∀ p : List Nat × List Nat, ps[j]? = some p → vs[j]? = some (.ref q.1) ∧ h.IsTuple q.1 q.2 ∧ ∃ t1 t2, q.2 = #[.str ⟨p.1.toArray⟩ t1, .str ⟨p.2.toArray⟩ t2] := fun j => by
    cases e : ps[j]? with
    | none => exact ⟨(0, #[]), fun p hp => nomatch hp⟩
    | some p =>
      obtain ⟨T, t1, t2, h1, h2⟩ := pairs_at r j p e
      exact ⟨(T, _), fun p' hp' => by cases hp'; exact ⟨h1, h2, t1, t2, rfl⟩⟩
  obtain ⟨f, hf⟩ := Classical.skolem.mp key
  exact ⟨fun j => (f j).1, fun j => (f j).2, hf⟩

theorem gen_pile {c : Cx} (ok : c.Ok) (T : PileTop c.K) (GT : GenTop c.K) {cc P : Addr} {pos : Pos} (CT : CodeTop c.K cc P pos) (hcode : c.env.code = .ref cc)
    {elt : Expr} {xa xb : Str} {pa pb pt ip : Pos} {kt : Nat} {scope : Scope} {s : Shared} (inv : c.Inv s) {x dx : Addr} {ps : List (List Nat × List Nat)} (F : Nat → Value → Prop)
    (hself : c.vars.lookup ("self" : Str) = some (D.pile x dx (ps.map pairF)))
    (hco : scope.isCoroutine = false) (hclos : closureFor scope c.env = pure []) (hcell : ∀ y ∈ scope.names, y.2 ≠ .cell) (h0 : scope.names.lookup (".0" : Str) = some NameKind.local)
    (hxa : scope.names.lookup xa = some .local) (hxb : scope.names.lookup xb = some .local) (hab : xa ≠ xb) (hkind : scope.kind = .function)
    (helt : ∀ (A' : Around) (E' : Value → Shared → Prop) (j : Nat) (p : List Nat × List Nat) (t1 t2 : Tok) (t : Shared) (m : Str → Option Value) (C : Addr) (code : Value), A'.handled = none → ps[j]? = some p → t.heap.Ns C m → m xa = some (.str ⟨p.1.toArray⟩ t1) → m xb = some (.str ⟨p.2.toArray⟩ t2) → StIn c.K t.heap →
      wpAny (model PG c.w) A' (eval elt (genEnv scope [] C code builtinsNs c.env)) (fun y s₃ => F j y ∧ Keeps t s₃) E' t)
    {Q : Value → Shared → Prop} (h : ∀ a s', Up s s' → Wd c.K s' → 1 ≤ s'.toks → GenOk c.w c.A s a ps.length F s' → Q (.ref a) s') :
    wpAny (model PG c.w) c.A (eval (.GeneratorExp elt [⟨.Tuple [.Name xa pa, .Name xb pb] kt pt, .Name "self" ip, [], 0⟩] scope pos) c.env) Q NoE s := by
  have hdep := ok.depth
  refine wpAny_with_toks inv.pos (toE (wpAny_GeneratorExp_walksQTD ok.handled hco hclos hcell h0 hxa hxb hab hkind (show c.A.depth < 1000 by omega) ?_ (fun _ => rfl)))
  refine (Ev.name hself rfl) ok s _ inv fun v s1 i1 u1 r1 _ => ?_
  obtain ⟨rfl, vs, n, es, m, p⟩ := pileAt_of r1
  refine pile_iter T i1.wd.inK p.obj ?_
  generalize hI : s1.heap.objs.size = I
  have hfreshI : s1.heap.get? I = none := fresh_size (by rw [hI]; exact Nat.le_refl _)
  generalize hs2 : ({ s1 with heap := s1.heap.push { cls := .type "list_iterator", data := .fields #[.ref x, .int 0 0] } } : Shared) = s2
  have k12 : ∀ b o, s1.heap.get? b = some o → s2.heap.get? b = some o := fun b o e => by subst hs2; exact Heap.get?_push_of_some _ e
  have u12 : Up s1 s2 := by subst hs2; exact Up.push
  have wd2 : Wd c.K s2 := by subst hs2; exact i1.wd.keeps fun b o e => Heap.get?_push_of_some _ e
  have g2 : s2.gens = s1.gens := by subst hs2; rfl
  have sz2 : s2.heap.objs.size = I + 1 := by subst hs2; rw [Heap.size_push, hI]
  have it2 : s2.heap.IsListIter I x 0 := by subst hs2; subst hI; exact ⟨_, Heap.get?_push_size _ rfl, rfl, rfl⟩
  refine ⟨wd2.noLimit ok.gok, gen_code CT wd2 hcode fun code s3 u23 wd3 g3 sz3 => ?_⟩
  obtain ⟨bm, hbm, hbne, hbt, hbK⟩ := GT.bm
  obtain ⟨ges, gn, hg, gk⟩ := ok.gok.glob
  refine wpAny_builtinsFor (m := fun y => nsFind (entriesOf c.K mainGlobals) y) (by rw [ok.glob]; exact wd3.ns (by decide) hg gk) hbm hbne (wd3.st _ _ hbK hbt) rfl rfl rfl ?_
  have u13 : Up s1 s3 := u12.trans u23
  have p3 := p.up u13
  obtain ⟨Ts, vals, hTs⟩ := pairs_fn p3.reps
  have hlen : vs.length = ps.length := by rw [p.reps.length, List.length_map]
  have hsz : vs.toArray.size = ps.length := by simp [hlen]
  have at' : ∀ j, j < vs.toArray.size → ∃ q, ps[j]? = some q := fun j hj => ⟨ps[j]'(by omega), by simp⟩
  have hit : ∀ j, j < vs.toArray.size → vs.toArray[j]? = some (.ref (Ts j)) := fun j hj => by
    obtain ⟨q, hq⟩ := at' j hj
    simpa using (hTs j q hq).1
  have it3 : s3.heap.IsListIter I x 0 := let ⟨o, ho, hc, hd⟩ := it2; ⟨o, u23.get ho (.inl (by rw [hc]; nofun)), hc, hd⟩
  have hTI : ∀ j, j < vs.toArray.size → Ts j ≠ I := fun j hj => by
    obtain ⟨q, hq⟩ := at' j hj
    obtain ⟨o, ho, hc, _⟩ := (hTs j q hq).2.1
    obtain ⟨o', ho', hc', _⟩ := it3
    intro e
    rw [e, ho'] at ho
    cases ho
    rw [hc] at hc'
    exact absurd hc' (by decide)
  have hxI : x ≠ I := fun e => by
    have := p.obj
    rw [e, hfreshI] at this; cases this
  have lt3 : ∀ b o, s3.heap.get? b = some o → b < s3.heap.objs.size := fun b o e => Heap.lt_size e
  refine ⟨I, I :: x :: (List.range vs.toArray.size).map Ts, [I], vs.toArray.size, _, _, _, fun _ => true, F, rfl, fun A' hA => walksU_pile hA I x hxI vs.toArray Ts vals hit hTI, ?_, ⟨it3, IsPile.of p3.obj, fun k hk => ?_⟩, ?_, wd3.noLimit ok.gok, ?_, fun href hhref => ⟨?_, ?_⟩, ?_⟩
  · rintro i v ⟨hi, rfl⟩
    obtain ⟨q, hq⟩ := at' i hi
    obtain ⟨_, _, t1, t2, e⟩ := hTs i q hq
    exact ⟨_, _, e⟩
  · obtain ⟨q, hq⟩ := at' k hk
    exact (hTs k q hq).2.1
  · intro b hb
    rcases List.mem_cons.mp hb with rfl | hb
    · obtain ⟨o, ho, _⟩ := it3; exact lt3 _ _ ho
    · rcases List.mem_cons.mp hb with rfl | hb
      · exact lt3 _ _ p3.obj
      · obtain ⟨k, hk, rfl⟩ := List.mem_map.mp hb
        obtain ⟨q, hq⟩ := at' k (List.mem_range.mp hk)
        obtain ⟨o, ho, _⟩ := (hTs k q hq).2.1
        exact lt3 _ _ ho
  · intro hm
    simp at hm
    obtain ⟨ces, cn, hcs, _⟩ := ok.gok.stat
    have := i1.wd.st _ _ hcs (by decide)
    rw [hm, hfreshI] at this
    cases this
  · intro A' E' i va vb t m₂ hA _ _ hP hn hma hmb hkp
    exact wpAny_tests_nil ⟨rfl, _, _, rfl, fun _ _ e => e⟩
  · rintro A' E' i va vb t m₂ hA _ _ ⟨hi, hv⟩ _ hn hma hmb hkp
    obtain ⟨q, hq⟩ := at' i hi
    obtain ⟨_, _, t1, t2, e⟩ := hTs i q hq
    rw [e] at hv
    have e1 : va = .str ⟨q.1.toArray⟩ t1 ∧ vb = .str ⟨q.2.toArray⟩ t2 := by simpa using hv
    refine helt A' E' i q t1 t2 t m₂ _ _ hA hq hn (by rw [hma, e1.1]) (by rw [hmb, e1.2]) fun a o eK ha => ?_
    have := wd3.st a o eK ha
    refine hkp a (List.mem_range.mpr (lt3 _ _ this)) ?_ o (hhref a o this)
    intro hm
    simp at hm
    subst hm
    have := i1.wd.st _ _ eK ha
    rw [hfreshI] at this; cases this
  · intro a h₅ tk gs hbare ha hsz5 hk5 W G0 hpos
    have hpass : passing (fun _ => true) vs.toArray.size 0 = List.range ps.length := by
      unfold passing
      rw [List.drop_zero, List.filter_eq_self.mpr (fun _ _ => rfl), hsz]
    have W' := W.imp (P' := F) fun j y ⟨i, hi, hF⟩ => by
      have : i = j := by
        rw [hpass] at hi
        have := List.getElem?_eq_some_iff.mp hi
        obtain ⟨h1, h2⟩ := this
        simpa using h2.symm
      exact this ▸ hF
    have hpl : (passing (fun _ => true) vs.toArray.size 0).length = ps.length := by rw [hpass, List.length_range]
    rw [hpl] at W'
    have u35 : Up s3 { s3 with gens := s3.gens.push gs, toks := tk, heap := h₅ } := ⟨rfl, fun hb => hb.push hbare, fun b o e _ => hk5 b o e, fun P hP ps e => ⟨#[], by rw [Array.append_empty]; exact hk5 _ _ e⟩, fun b o e => ⟨o, hk5 b o e⟩⟩
    have wd5 : Wd c.K { s3 with gens := s3.gens.push gs, toks := tk, heap := h₅ } := ⟨fun a o e n => hk5 _ _ (wd3.st a o e n), fun P hP => let ⟨ps, hp, ok⟩ := wd3.tab P hP; ⟨ps, hk5 _ _ hp, ok⟩⟩
    refine h a _ ((u1.trans u13).trans u35) wd5 hpos ⟨_, _, _, _, W', G0, fun i t st => st.1.typeIs, List.mem_cons_self, ?_, ?_⟩
    · intro b hb
      show b < h₅.objs.size
      rw [hsz5]
      rcases List.mem_cons.mp hb with rfl | hb
      · exact Nat.lt_succ_self _
      · rcases List.mem_cons.mp hb with rfl | hb
        · exact Nat.lt_succ_of_lt ha
        · exact Nat.lt_succ_of_lt (Nat.lt_trans (List.mem_range.mp hb) ha)
    · intro b hb
      rcases List.mem_cons.mp hb with rfl | hb
      · exact (u1.trans u13).none (fresh_size (Nat.le_refl _))
      · simp at hb
        subst hb
        exact u1.none hfreshI
end Mine
end

section
open PySem PySem.W PyProof.Rows PySem.Calls
set_option maxHeartbeats 4000000
namespace Mine

theorem args_sum2 (a b : Value) : argsOk "sum" ⟨[a, b], []⟩ := by unfold argsOk; kernel_rfl
theorem call_sum_gen {w : World} {A : Around} {E : Value → Shared → Prop} {s s0 : Shared} {a : Addr} {n : Nat} {F : Nat → Value → Prop} (Gn : GenOk w A s0 a n F s) (val : Nat → Int) (hval : ∀ j v, F j v → ∃ t, v = .int (val j) t)
    (hfit : ∀ j, j < n → InLong (val j) ∧ InLong (preSum val (j + 1))) {t0 : Tok} {Q : Value → Shared → Prop}
    (hq : ∀ s' t' wr g, (∀ b ∈ wr, s0.heap.get? b = none) → Moved wr (GenOnlyQ g) s s' → Q (.int (preSum val n) t') s') : wpAny (model PG w) A (call (.builtin "sum") [.ref a, .int 0 t0]) Q E s := by
  obtain ⟨fp, wr, g, St, W4, hst, hty, hafp, hfp, hwr⟩ := Gn
  have W := W4.in4_1
  refine call_function_tree PySem.F.kind_sum PySem.F.plain_sum PySem.F.entry_sum (args_sum2 _ _) ?_
  unfold Builtin.«sum»
  simp only [List.length_cons, List.length_nil]
  rw [if_neg (by decide)]
  refine wpAny_bind (wpAny_of_eq (show Builtin.Builtins.bindParams "sum" ["start"] 0 ⟨[.int 0 t0], []⟩ = pure [some (.int 0 t0)] from rfl) ?_)
  refine wpAny_bind (W.self 0 s _ _ hst ?_)
  dsimp only
  refine wpAny_bind (wpAny_rule ?_)
  refine wpAny_bind (wpAny_mkInt (wpAny_bind (wpAny_pure ?_)))
  simp only [List.forIn_cons, List.forIn_nil]
  refine wpAny_bind (wpAny_bind (wpAny_bind (wpAny_isInstance (T := "int") (b := false) (typeIs_int _ _ _) PySem.sub_int_str ?_)))
  simp only [Bool.false_eq_true, if_false]
  refine wpAny_pure (wpAny_bind (wpAny_bind (wpAny_isInstance (T := "int") (b := false) (typeIs_int _ _ _) sub_int_bytes ?_)))
  simp only [Bool.false_eq_true, if_false]
  refine wpAny_pure (wpAny_bind (wpAny_bind (wpAny_isInstance (T := "int") (b := false) (typeIs_int _ _ _) sub_int_bytearray ?_)))
  simp only [Bool.false_eq_true, if_false]
  refine wpAny_pure (wpAny_pure ?_)
  refine wpAny_bind (wpAny_newObj_type ?_)
  have hSf : s.heap.objs.size ∉ fp := fun hm => Nat.lt_irrefl _ (hfp _ hm)
  refine wpAny_pure ⟨plainId_quiet PySem.F.plain_sum_loop _, codeAny_sum_loopS W val hval hfit s.heap.objs.size hSf n 0 _ s.toks 0 rfl (Nat.zero_le _)
    (W.frame 0 s _ _ hst (by first | exact Nat.le_refl _ | exact Nat.le_succ _ | omega) fun b _ o e => Heap.get?_push_of_some _ e) (Heap.get?_push_size _ rfl) fun s' t' hm => ?_⟩
  exact hq s' t' wr g hwr (hm.drop_new (by first | exact Nat.le_refl _ | exact Nat.le_succ _ | omega))
end Mine
end

section
open PySem PySem.W PyProof.Rows PySem.Calls
set_option maxHeartbeats 4000000
namespace Mine

structure GenTop2 (K : Frag) : Prop extends GenTop K where
  cl : ∀ pos : Pos, pos.line = 31 → pos.col = 19 → CodeTop K 100 96 pos
  cs : ∀ pos : Pos, pos.line = 34 → pos.col = 32 → CodeTop K 107 103 pos
  gsum : gval K "sum" = some (.builtin "sum")
  glen : gval K "len" = some (.builtin "len")
  gemp : ∃ t, gval K "EMPTYSTRING" = some (.str ⟨#[]⟩ t)

def lenP (ps : List (List Nat × List Nat)) : Int := (ps.map fun p => ((p.1.length : Int) + (p.2.length : Int))).sum
def strP (ps : List (List Nat × List Nat)) : List Nat := joinL [] (ps.map fun p => joinL [] [p.1, p.2])

theorem sum_bound : ∀ (xs : List Int) (n : Nat), (∀ x ∈ xs, 0 ≤ x ∧ x ≤ 2000) → 0 ≤ (xs.take n).sum ∧ (xs.take n).sum ≤ 2000 * xs.length
  | [], n, _ => by simp
  | x :: r, 0, _ => by simp; omega
  | x :: r, n + 1, h => by
    have ih := sum_bound r n fun y hy => h y (.tail _ hy)
    have h1 := h x (.head _)
    simp only [List.take_succ_cons, List.sum_cons, List.length_cons]
    omega

theorem GenOk.tok {w : World} {A : Around} {s s' : Shared} {a : Addr} {n : Nat} {F : Nat → Value → Prop} {tk : Nat} (h : s'.toks ≤ tk) : GenOk w A s a n F s' → GenOk w A s a n F { s' with toks := tk } :=
  fun ⟨fp, wr, g, St, W, st, r⟩ => ⟨fp, wr, g, St, W, W.frame 0 s' s'.heap tk st h fun _ _ _ e => e, r⟩
theorem pile_getAttr {K : Frag} {w : World} {A : Around} {E : Value → Shared → Prop} {s : Shared} {x dx : Addr} {vs : List Value} {n : Nat} {od : Obj} {name : Str} {expr : Bool} {v : Value} {Q : Value → Shared → Prop} (T : PileTop K) (X : (noTabs K).In s.heap)
    (I : InstAt s.heap x (pileObj dx vs n) 133 (some od)) (hf : findObj (noTabs K) 133 (some od) name = some (.value v)) (hh : handedIn v = true) (h : Q v { s with toks := s.toks + 1 }) :
    wpAny (model PG w) A (getAttr (.ref x) name expr) Q E s := by
  have hx := I.at_
  obtain ⟨h0, g, d, t, os⟩ := s
  have L0 := I.type (M := model PG w)
  have L1 := looks_findIn (M := model PG w) X T.ga
  have L2 := looks_findIn (M := model PG w) X T.gattr
  have L3 := looks_find (M := model PG w) X I hf
  unfold getAttr getAttrBy
  refine wpAny_bind (wpAny_mkText (wpAny_holding (wpAny_bind (L0.at (wpAny_bind (L1.at ?_))))))
  show wpAny _ _ (getAttrByItsOwn (.ref x) (.str name t) (.ref 133) (.builtin "list.__getattribute__") true expr) _ _ _
  unfold getAttrByItsOwn hookBefore callGetattribute boundAndCalled
  refine wpAny_bind (L2.at ?_)
  rw [if_neg (show ¬ ((expr && onTheHeap (.builtin "list.__getattribute__")) = true) by cases expr <;> decide)]
  refine wpAny_bind (wpAny_attempt (wpAny_holding ?_))
  refine wpAny_bind (wpAny_of_eq (PySem.F.slot_list_getattribute.bind _) ?_)
  refine wpAny_mono (Q := fun v' s' => v' = v ∧ s' = ⟨h0, g, d, t + 1, os⟩) (E := fun _ _ => False)
    (pile_call (.inl (by decide +kernel)) (nm := "__getattribute__") (by decide +kernel) (by decide +kernel) am_entry_list_getattribute (pile_isList T X hx) (PySem.F.args_list_getattribute_2 _ _) ?_) (fun v' s' hv => ?_) fun _ _ z => z.elim
  · refine wpAny_bind (wpAny_pure (wpAny_bind (wpAny_pure (wpAny_bind (L0.at (wpAny_bind (L3.at ?_)))))))
    exact wpAny_pure ⟨_, rfl, rfl, rfl⟩
  · obtain ⟨rfl, rfl⟩ := hv
    dsimp only
    rw [handedOut_of hh]
    exact wpAny_pure h
theorem pile_ini {K : Frag} (T : PileTop K) {h : Heap} {x dx : Addr} {vs : List Value} {n : Nat} {es : Array DictEntry} {m : Nat} {xs : List F} (p : PileAt h x dx vs n es m xs) :
    ∃ t0, findObj (noTabs K) 133 (some (dicObj es m)) "_initial_size" = some (.value (.int 0 t0)) := by
  obtain ⟨hsh, tk, t0, rfl⟩ := p.ini
  obtain ⟨cd, hc, hd, _⟩ := T.cls
  refine ⟨t0, findObj_own (by unfold hasDictIn; rw [hc]; simpa using hd) T.iniAttr rfl ?_⟩
  show getL "_initial_size" [⟨hsh, .str "_initial_size" tk, .int 0 t0⟩] = _
  simp [getL, Value.isStr]

theorem call_plen {c : Cx} (ok : c.Ok) {k : Nat} (hk : c.k = k + 1) (T : PileTop c.K) (GT : GenTop2 c.K) {pm doc : Value} (f : FnOk c.K 101 (methOf (mAt 4) "__len__" "_Accumulator.__len__" .none pm (.ref 100) doc) (bodyS (mAt 4)))
    {s : Shared} (inv : c.Inv s) {x dx : Addr} {ps : List (List Nat × List Nat)} {v : Value} (p : Rep c.w s.heap v (.pile x dx (ps.map pairF))) (hlen : ps.length ≤ 100) (hps : ∀ p ∈ ps, p.1.length ≤ 1000 ∧ p.2.length ≤ 1000)
    {Q : Value → Shared → Prop} (h : ∀ s' t, Up s s' → Wd c.K s' → Q (.int (lenP ps) t) s') : wpAny (model PG c.w) c.A (call (.ref 101) [v]) Q NoE s := by
  refine call_raw ok hk f false (binds := [("self", v)]) (ds := [("self", .pile x dx (ps.map pairF))]) (.of_eq rfl) inv (.cons p .nil) (by show (["self"] : List Str).Nodup; decide) (fun y hy => by simp at hy; subst hy; exact .inl rfl) ?_
  intro s1 okf i1 u1
  refine wpAny_execs_cons (wpAny_Return_some ?_)
  refine wpAny_Call_NameR ((Ev.glob (c := fnCx c.w c.K k c.A (methOf (mAt 4) "__len__" "_Accumulator.__len__" .none pm (.ref 100) doc) 101 s.heap.objs.size s false [("self", .pile x dx (ps.map pairF))]) rfl GT.gsum) okf s1 _ i1 fun v0 s2 i2 u2 r2 _ => ?_)
  cases r2
  refine wp_callWith (c := fnCx c.w c.K k c.A (methOf (mAt 4) "__len__" "_Accumulator.__len__" .none pm (.ref 100) doc) 101 s.heap.objs.size s false [("self", .pile x dx (ps.map pairF))]) (first := []) (.inl ⟨_, rfl⟩) rfl (fun P hp => evalArgs_plain hp) ?_
  obtain ⟨xs0, hxs0⟩ : ∃ xs0, xs0 = ps.map fun p => ((p.1.length : Int) + (p.2.length : Int)) := ⟨_, rfl⟩
  have hx0l : xs0.length = ps.length := by rw [hxs0, List.length_map]
  have hx0 : ∀ x ∈ xs0, 0 ≤ x ∧ x ≤ 2000 := fun x hx => by
    rw [hxs0] at hx
    obtain ⟨p, hp, rfl⟩ := List.mem_map.mp hx
    have := hps p hp
    omega
  let val : Nat → Int := fun j => xs0.getD j 0
  have hval : ∀ j p, ps[j]? = some p → val j = (p.1.length : Int) + (p.2.length : Int) := fun j p e => by simp [val, hxs0, List.getD, e]
  refine wpAny_items_cons (gen_pile (ps := ps) (F := fun j y => ∃ t, y = Value.int (val j) t) okf T GT.toGenTop (GT.cl _ rfl rfl) rfl i2 rfl rfl rfl (by decide) rfl rfl rfl (by decide) rfl ?_ fun a s3 u3 wd3 pos3 Gn => ?_)
  · intro A' E' j p t1 t2 t m C code hA hp hn hma hmb hX
    obtain ⟨b1, b2⟩ := hps p (List.mem_of_getElem? hp)
    refine wpAny_BinOp (g_len okf.gok hX rfl rfl rfl rfl rfl GT.glen hn hma rfl (by omega) fun t3 tk3 => ?_)
    refine g_len (s := { t with toks := tk3 }) okf.gok hX rfl rfl rfl rfl rfl GT.glen hn hmb rfl (by omega) fun t4 tk4 => ?_
    exact wpAny_add_int ⟨⟨_, by rw [hval j p hp]⟩, _, _, rfl, fun _ _ e => e⟩
  have i3 : (fnCx c.w c.K k c.A (methOf (mAt 4) "__len__" "_Accumulator.__len__" .none pm (.ref 100) doc) 101 s.heap.objs.size s false [("self", .pile x dx (ps.map pairF))]).Inv s3 := ⟨i2.up0 wd3 u3, pos3⟩
  refine wpAny_items_cons (Attribute_Name_ ?_)
  obtain ⟨vx, bd, rx, _⟩ := i3.vars ("self", .pile x dx (ps.map pairF)) (.head _)
  refine wpAny_Name (wp_name okf bd ?_) rfl
  obtain ⟨rfl, vs, n, es, m, p3⟩ := pileAt_of rx
  obtain ⟨t0, hf⟩ := pile_ini T p3
  refine pile_getAttr (od := dicObj es m) T i3.wd.inK ⟨p3.obj, rfl, rfl, p3.dic⟩ hf rfl ?_
  refine wpAny_items_nil ⟨wd3.keeps fun _ _ e => e, ?_⟩
  have Gn' := Gn.tok (tk := s3.toks + 1) (Nat.le_succ _)
  refine call_sum_gen Gn' val (fun j v hv => hv) (fun j hj => ?_) fun s' t' wr g hw hm => ?_
  · have hj' : j < xs0.length := by rw [hx0l]; exact hj
    have e1 := preSum_is xs0 (j + 1) hj'
    have e2 := sum_bound xs0 (j + 1) hx0
    have e3 : 0 ≤ val j ∧ val j ≤ 2000 := by
      have : val j = xs0[j] := by simp [val, List.getD, List.getElem?_eq_getElem hj']
      rw [this]; exact hx0 _ (List.getElem_mem hj')
    have e4 : preSum val (j + 1) = (xs0.take (j + 1)).sum := e1
    unfold InLong
    omega
  · have e1 : preSum val ps.length = lenP ps := by
      have := preSum_is xs0 ps.length (by rw [hx0l]; exact Nat.le_refl _)
      rw [List.take_of_length_le (by rw [hx0l]; exact Nat.le_refl _)] at this
      rw [lenP, ← hxs0]
      exact this
    rw [e1]
    have u3' : Up s2 { s3 with toks := s3.toks + 1 } := u3.trans Up.tok
    exact h s' t' ((u1.trans u2).trans (u3'.moved hw hm)) (Wd.moved i2.wd (wd3.keeps fun _ _ e => e) hw hm)
end Mine
end

section
open PySem PySem.W PyProof.Rows PySem.Calls
set_option maxHeartbeats 4000000
namespace Mine

theorem strs_rec : ∀ {l : List (Str × Tok)} {ps : List (List Nat × List Nat)}, l.length = ps.length → (∀ (j : Nat) (p : List Nat × List Nat), ps[j]? = some p → ∀ v, (strValues l)[j]? = some v → ∃ t, v = Value.str ⟨(joinL [] [p.1, p.2]).toArray⟩ t) →
    l.map (·.1) = (ps.map fun p => joinL [] [p.1, p.2]).map fun x => ⟨x.toArray⟩
  | [], [], _, _ => rfl
  | [], _ :: _, h, _ => by simp at h
  | _ :: _, [], h, _ => by simp at h
  | (y, t) :: l, p :: ps, h, H => by
    have ih := strs_rec (l := l) (ps := ps) (by simpa using h) fun j q hq v hv => H (j + 1) q (by simpa using hq) v (by simpa [strValues] using hv)
    obtain ⟨t', e⟩ := H 0 p rfl (.str y t) rfl
    cases e
    rw [List.map_cons, List.map_cons, List.map_cons, ih]

theorem str_bound1 : ∀ {ps : List (List Nat × List Nat)}, (∀ p ∈ ps, p.1.length ≤ 1000 ∧ p.2.length ≤ 1000) → ((ps.map fun p => joinL [] [p.1, p.2]).map fun l => l.length + ([] : List Nat).length).sum ≤ 2000 * ps.length
  | [], _ => by simp
  | p :: r, h => by
    have ih := str_bound1 (ps := r) fun q hq => h q (.tail _ hq)
    obtain ⟨h1, h2⟩ := h p (.head _)
    have e : (joinL [] [p.1, p.2]).length = p.1.length + p.2.length := by simp [joinL]
    simp only [List.map_cons, List.sum_cons, List.length_cons, List.length_nil] at ih ⊢
    omega
theorem str_bound {ps : List (List Nat × List Nat)} (hl : ps.length ≤ 100) (h : ∀ p ∈ ps, p.1.length ≤ 1000 ∧ p.2.length ≤ 1000) : ((ps.map fun p => joinL [] [p.1, p.2]).map fun l => l.length + ([] : List Nat).length).sum ≤ 1000000 := by
  have := str_bound1 h
  omega

theorem call_pstr {c : Cx} (ok : c.Ok) {k : Nat} (hk : c.k = k + 1) (T : PileTop c.K) (GT : GenTop2 c.K) {pm doc : Value} (f : FnOk c.K 108 (methOf (mAt 5) "__str__" "_Accumulator.__str__" .none pm (.ref 107) doc) (bodyS (mAt 5)))
    {s : Shared} (inv : c.Inv s) {x dx : Addr} {ps : List (List Nat × List Nat)} {v : Value} (p : Rep c.w s.heap v (.pile x dx (ps.map pairF))) (hlen : ps.length ≤ 100) (hps : ∀ p ∈ ps, p.1.length ≤ 1000 ∧ p.2.length ≤ 1000)
    {Q : Value → Shared → Prop} (h : ∀ s' t, Up s s' → Wd c.K s' → Q (.str ⟨(strP ps).toArray⟩ t) s') : wpAny (model PG c.w) c.A (call (.ref 108) [v]) Q NoE s := by
  obtain ⟨te, hemp⟩ := GT.gemp
  refine call_raw ok hk f false (binds := [("self", v)]) (ds := [("self", .pile x dx (ps.map pairF))]) (.of_eq rfl) inv (.cons p .nil) (by show (["self"] : List Str).Nodup; decide) (fun y hy => by simp at hy; subst hy; exact .inl rfl) ?_
  intro s1 okf i1 u1
  refine wpAny_execs_cons (wpAny_Return_some ?_)
  refine wpAny_Call_method_lateS (by rfl) (by rfl) rfl ?_
  refine (Ev.glob (c := fnCx c.w c.K k c.A (methOf (mAt 5) "__str__" "_Accumulator.__str__" .none pm (.ref 107) doc) 108 s.heap.objs.size s false [("self", .pile x dx (ps.map pairF))]) rfl hemp) okf s1 _ i1 fun v0 s2 i2 u2 r2 _ => ?_
  cases r2
  refine ⟨"str", "str.join", PySem.F.plainAttrs_str, PySem.F.slot_str_join, rfl, typeIs_str _ _ _, (fun _ e => nomatch e), ?_⟩
  refine wp_callWith (c := fnCx c.w c.K k c.A (methOf (mAt 5) "__str__" "_Accumulator.__str__" .none pm (.ref 107) doc) 108 s.heap.objs.size s false [("self", .pile x dx (ps.map pairF))]) (first := [_]) (.inl ⟨_, rfl⟩) rfl (fun P hp => evalArgs_plain hp) ?_
  refine wpAny_items_cons (gen_pile (ps := ps) (F := fun (j : Nat) y => ∃ p : List Nat × List Nat, ps[j]? = some p ∧ ∃ t, y = Value.str ⟨(joinL [] [p.1, p.2]).toArray⟩ t) okf T GT.toGenTop (GT.cs _ rfl rfl) rfl i2 rfl rfl rfl (by decide) rfl rfl rfl (by decide) rfl ?_ fun a s3 u3 wd3 pos3 Gn => wpAny_items_nil ⟨wd3, ?_⟩)
  · intro A' E' j p t1 t2 t m C code hA hp hn hma hmb hX
    obtain ⟨b1, b2⟩ := hps p (List.mem_of_getElem? hp)
    refine wpAny_Call_method_lateS (by rfl) (by rfl) rfl ?_
    refine g_name okf.gok hX rfl rfl rfl rfl hemp rfl ?_
    refine ⟨"str", "str.join", PySem.F.plainAttrs_str, PySem.F.slot_str_join, rfl, typeIs_str _ _ _, (fun _ e => nomatch e), ?_⟩
    refine callWith_of (first := [_]) (P := fun _ => True) rfl (fun h _ => ⟨.machine, .inr (.inl rfl), Looks.of_pure rfl⟩) (evalArgs_plain (wpAny_items_cons (wpAny_Tuple ?_)))
    refine wpAny_items_cons (g_loc rfl rfl hn hma rfl ?_)
    refine wpAny_items_cons (g_loc rfl rfl hn hmb rfl ?_)
    refine wpAny_items_nil ⟨by rw [sizeLine_eq]; simp, wpAny_items_nil ⟨trivial, ?_⟩⟩
    have hT : IsTup (t.heap.push { cls := .type "tuple", data := .seq [Value.str ⟨p.1.toArray⟩ t1, Value.str ⟨p.2.toArray⟩ t2].toArray }) t.heap.objs.size [Value.str ⟨p.1.toArray⟩ t1, Value.str ⟨p.2.toArray⟩ t2].toArray := ⟨_, Heap.get?_push_size _ rfl, rfl, 0, rfl⟩
    refine PyProof.Rows.join_tuple (ys := [⟨p.1.toArray⟩, ⟨p.2.toArray⟩]) hT (.cons _ _ (.cons _ _ .nil)) (by simp [Str.length]; omega) fun t' k => ?_
    have e := join_is [] [p.1, p.2]
    simp only [List.map_cons, List.map_nil] at e
    rw [show (⟨#[]⟩ : Str) = ⟨([] : List Nat).toArray⟩ from rfl, e]
    exact ⟨⟨p, hp, _, rfl⟩, _, _, rfl, fun _ _ e => Heap.get?_push_of_some _ e⟩
  obtain ⟨fp, wr, g, St, W4, hst, hty, hafp, hfp, hwr⟩ := Gn
  refine PySem.SC.joinGen W4.in4_2 hty hst hfp hafp ?_ (fun s' l hm hl => ?_) (by rw [sizeLine_eq]; omega)
  · rintro i v ⟨p, _, t, rfl⟩; exact ⟨_, _, rfl⟩
  have hll : l.length = ps.length := by simpa [strValues] using hl.1
  have e1 : l.map (·.1) = (ps.map fun p => joinL [] [p.1, p.2]).map fun x => ⟨x.toArray⟩ := strs_rec hll fun j p hp v hv => by
    obtain ⟨q, hq, r⟩ := hl.2 j v (by simpa using hv)
    rw [hp] at hq; cases hq; exact r
  refine ⟨?_, fun t' tk => ?_⟩
  · rw [e1]
    exact join_ok [] _ (str_bound hlen hps)
  · rw [e1, show (⟨#[]⟩ : Str) = ⟨([] : List Nat).toArray⟩ from rfl, join_is]
    exact h _ _ ((u1.trans u2).trans ((u3.moved hwr hm).trans Up.tok)) ((Wd.moved i2.wd wd3 hwr hm).keeps fun _ _ e => e)
end Mine
end

section
open PySem PySem.W PyProof.Rows PySem.Calls
set_option maxHeartbeats 4000000
namespace Mine

def D.noP : D → Bool
  | .pile _ _ _ => false
  | .dict _ _ => false
  | _ => true
theorem own_of_fresh {K : Frag} {B : Shared} {x dx : Addr} (wb : Wd K B) (hx : B.heap.get? x = none) (hd : B.heap.get? dx = none) : Own K x dx := fun a o e => by
  have key : ∃ o', B.heap.get? a = some o' := by
    by_cases ha : a ∈ tabs
    · obtain ⟨ps, hp, _⟩ := wb.tab a ha; exact ⟨_, hp⟩
    · exact ⟨o, wb.st a o e ha⟩
  obtain ⟨o', ho'⟩ := key
  constructor <;> rintro rfl
  · rw [hx] at ho'; cases ho'
  · rw [hd] at ho'; cases ho'

/-- variables after the pile turned -/
def SetP (x dx : Addr) (ys : List F) (vs vs' : List (Str × D)) : Prop := ∀ p ∈ vs', (p.2 = .pile x dx ys ∧ ∃ xs, (p.1, D.pile x dx xs) ∈ vs) ∨ (p ∈ vs ∧ p.2.noP = true)

theorem turned_inv {c : Cx} (ok : c.Ok) {x dx : Addr} {s s' : Shared} {xs ys : List F} {vs' : List (Str × D)} (i : c.Inv s) {vx : Value} (hp : Rep c.w s.heap vx (.pile x dx xs)) (hx : c.B.heap.get? x = none) (hd : c.B.heap.get? dx = none) (hL : dx ≠ c.env.locals)
    (t : Turned c x dx s s' ys) (hv : SetP x dx ys c.vars vs') : (c.wv vs').Inv0 s' ∧ Kp c.kl s.heap s'.heap := by
  obtain ⟨rfl, us, n, es, m, p⟩ := pileAt_of hp
  obtain ⟨us', n', es', m', p'⟩ := t.pile
  have keep : ∀ b o, s.heap.get? b = some o → NotTab o → (∀ us n, o ≠ pileObj dx us n) → b ≠ dx → s'.heap.get? b = some o := fun b o e hn hp' hb =>
    t.chg.keep b o (by rintro rfl; rw [p.obj] at e; cases e; exact hp' _ _ rfl) hb e (.inr hn)
  have kt := t.chg.keepT p.obj p.dic
  have keepNs : ∀ {a : Addr} {m : Str → Option Value}, a ≠ dx → s.heap.Ns a m → s'.heap.Ns a m := fun hne ⟨o, es, ep, ho, hd, r⟩ => ⟨o, es, ep, keep _ _ ho (.inr (by rw [hd]; nofun)) (fun _ _ e => by rw [e] at hd; cases hd) hne, hd, r⟩
  have keepC : ∀ {a : Addr} {m : Option Value}, s.heap.IsCell a m → s'.heap.IsCell a m := fun ⟨o, ho, hd⟩ => ⟨o, keep _ _ ho (.inr (by rw [hd]; nofun)) (fun _ _ e => by rw [e] at hd; cases hd) (by rintro rfl; rw [p.dic] at ho; cases ho; cases hd), hd⟩
  have keepB : ∀ {y : Str} {v : Value}, Bnd c.env s.heap y v → Bnd c.env s'.heap y v
    | _, _, .inl ⟨k, m, n, e⟩ => .inl ⟨k, m, keepNs hL.symm n, e⟩
    | _, _, .inr ⟨k, kd, a, e, hc⟩ => .inr ⟨k, kd, a, e, keepC hc⟩
  have hB : ∀ b o, c.B.heap.get? b = some o → b ≠ x ∧ b ≠ dx := fun b o e => ⟨(by rintro rfl; rw [hx] at e; cases e), (by rintro rfl; rw [hd] at e; cases e)⟩
  refine ⟨⟨t.wd, ⟨t.chg.os.trans i.up.os, fun h => t.chg.gens (i.up.gens h), fun b o e h => ?_, fun P hP ps e => ?_, fun b o e => ?_⟩, ?_, fun q hq => ?_, fun q hq => ?_⟩, fun b o e k => ?_⟩
  · exact t.chg.keep b o (hB b o e).1 (hB b o e).2 (i.up.keep b o e h) h
  · obtain ⟨m1, e1⟩ := i.up.tab P hP ps e
    obtain ⟨m2, e2⟩ := t.chg.tab P hP _ e1
    exact ⟨m1 ++ m2, by rw [e2, Array.append_assoc]⟩
  · obtain ⟨o', e'⟩ := i.up.there b o e
    exact t.chg.there b o' e'
  · obtain ⟨m, n⟩ := i.ns; exact ⟨m, keepNs hL.symm n⟩
  · rcases hv q hq with ⟨e, xs', hm⟩ | ⟨hm, hno⟩
    · obtain ⟨v1, b1, r1, n1⟩ := i.vars _ hm
      obtain ⟨rfl, _⟩ := pileAt_of r1
      refine ⟨_, keepB b1, ?_, ?_⟩
      · rw [e]; exact p'.rep
      · rw [e]; exact n1
    · obtain ⟨v1, b1, r1, n1⟩ := i.vars q hm
      refine ⟨v1, keepB b1, ?_, n1⟩
      obtain ⟨qx, qd⟩ := q
      cases qd with
      | f z => exact RepF.keepT kt r1
      | val u => exact r1
      | list z => obtain ⟨a, us, k, e, ha, q⟩ := r1; exact ⟨a, us, k, e, keep _ _ ha (.inl nofun) (fun _ _ e => by injection e with e1; cases e1) (by rintro rfl; rw [p.dic] at ha; simp [dicObj, listObj] at ha), q.keepT kt⟩
      | mlist b z => obtain ⟨e, us, k, ha, q⟩ := r1; exact ⟨e, us, k, keep _ _ ha (.inl nofun) (fun _ _ e => by injection e with e1; cases e1) (by rintro rfl; rw [p.dic] at ha; simp [dicObj, listObj] at ha), q.keepT kt⟩
      | dict a kvs => cases hno
      | pile px dx z => cases hno
  · obtain ⟨v, hc⟩ := i.cel q hq; exact ⟨v, keepC hc⟩
  · refine keep b o e k.notTab ?_ ?_
    · rintro us n rfl
      rcases k with ⟨_, _, _, hd⟩ | ⟨hc, _⟩ | ⟨_, hc, _⟩
      · cases hd
      · cases hc
      · cases hc
    · rintro rfl
      rw [p.dic] at e; cases e
      rcases k with ⟨_, _, _, hd⟩ | ⟨_, _, _, hd⟩ | ⟨_, _, _, _, hd⟩ <;> cases hd

/-- the class's functions that the law calls -/
structure MethTop (K : Frag) : Prop where
  push : findIn (noTabs K) (.ref 133) "push" = some (some (.ref 79))
  pushF : typeIn (noTabs K) (.ref 79) = some (.type "function")
  pushK : ∃ pm cd doc, FnOk K 79 (methOf (mAt 1) "push" "_Accumulator.push" .none pm cd doc) (bodyS (mAt 1))
  popf : findIn (noTabs K) (.ref 133) "pop_from" = some (some (.ref 87))
  popfF : typeIn (noTabs K) (.ref 87) = some (.type "function")
  popfK : ∃ pm cd doc, FnOk K 87 (methOf (mAt 2) "pop_from" "_Accumulator.pop_from" (.ref 80) pm cd doc) (bodyS (mAt 2))
  reset : findIn (noTabs K) (.ref 133) "reset" = some (some (.ref 116))
  resetF : typeIn (noTabs K) (.ref 116) = some (.type "function")
  resetK : ∃ pm cd doc, FnOk K 116 (methOf (mAt 6) "reset" "_Accumulator.reset" (.ref 109) pm cd doc) (bodyS (mAt 6))
  len : findIn (noTabs K) (.ref 133) "__len__" = some (some (.ref 101))
  lenF : typeIn (noTabs K) (.ref 101) = some (.type "function")
  lenK : ∃ pm doc, FnOk K 101 (methOf (mAt 4) "__len__" "_Accumulator.__len__" .none pm (.ref 100) doc) (bodyS (mAt 4))
  str : findIn (noTabs K) (.ref 133) "__str__" = some (some (.ref 108))
  strF : typeIn (noTabs K) (.ref 108) = some (.type "function")
  strK : ∃ pm doc, FnOk K 108 (methOf (mAt 5) "__str__" "_Accumulator.__str__" .none pm (.ref 107) doc) (bodyS (mAt 5))

abbrev MethEq (env : Env) (o : Expr) (name : Str) (apos cpos : Pos) (args : List Expr) (pl : Sem Bool) : Prop :=
  eval (.Call (.Attribute o name apos) args [] cpos) env = (do
    let ov ← eval o env
    standAt apos.atName
    let (f, first) ← holding [ov] (getMethod ov name pl)
    callWith cpos f first (backTo cpos (starEach args env)) (backToKw cpos (keywordEach [] env)))

/-- x.push(a, b) -/
theorem S1.push {c : Cx} {k : Nat} (hk : c.k = k + 1) (T : PileTop c.K) (MT : MethTop c.K) {y : Str} {yp apos cpos pos : Pos} {e e' : Expr} {x dx : Addr} {xs : List F} {f1 f2 : F} {vs' : List (Str × D)} {pl : Sem Bool}
    (hm : MethEq c.env (.Name y yp) "push" apos cpos [e, e'] pl)
    (hy : Ev c (.Name y yp) (.pile x dx xs)) (h1 : Ev c e (.f f1)) (h2 : Ev c e' (.f f2)) (hx : c.B.heap.get? x = none) (hd : c.B.heap.get? dx = none) (hlen : xs.length ≤ 1000)
    (hv : SetP x dx (xs ++ [.tup [f1, f2]]) c.vars vs') (he : ∀ env, starEach [e, e'] env = [(false, eval e env), (false, eval e' env)]) (hi : interactive c.env = false)
    (hs : swapsWith (.Call (.Attribute (.Name y yp) "push" apos) [e, e'] [] cpos) none pos.line c.env = pure false) :
    S1 c (.Expr (.Call (.Attribute (.Name y yp) "push" apos) [e, e'] [] cpos) pos) (.next vs') := S1.of_mk fun ok s Q inv h => by
  obtain ⟨pm, cd, doc, fk⟩ := MT.pushK
  refine wpAny_Expr_any ?_ hi hs
  refine methodCall_KW ?_ hm
  refine hy ok s _ inv fun v s2 i2 u2 rp nl => ?_
  obtain ⟨rfl, vs2, n2, es2, m2, p2⟩ := pileAt_of rp
  refine pile_getMethod T i2.wd.inK p2.obj p2.dic p2.keys (p2.none (by decide)) MT.push (tf := "function") (fun _ X => looks_typeIn X MT.pushF) (.inl rfl) ?_
  refine wp_callWith (first := [.ref x]) fk.cal (by rw [he]; rfl) (fun P hp => by rw [he] at hp ⊢; exact evalArgs_plain hp) (args2 h1 h2 he ok i2 fun v1 v2 s3 i3 u3 r1 r2 => ⟨i3.wd, ?_⟩)
  have p3 := p2.up u3
  refine call_push ok hk T fk i3 p3 (own_of_fresh ok.wb hx hd) hlen r1 r2 fun s4 t4 => ?_
  obtain ⟨i4, k4⟩ := turned_inv ok i3 p3.rep hx hd nl.2 t4 hv
  exact h s4 i4 (((u2.trans u3).kp _).trans k4)

/-- z = x.pop_from(e) -/
theorem S1.popFrom {c : Cx} {k : Nat} (hk : c.k = k + 1) (T : PileTop c.K) (MT : MethTop c.K) {y z : Str} {yp zp apos cpos pos : Pos} {e : Expr} {x dx : Addr} {xs : List F} {i : Int} {vs1 vs' : List (Str × D)} {pl : Sem Bool}
    (hm : MethEq c.env (.Name y yp) "pop_from" apos cpos [e] pl)
    (hy : Ev c (.Name y yp) (.pile x dx xs)) (h1 : Ev c e (.f (.int i))) (hx : c.B.heap.get? x = none) (hd : c.B.heap.get? dx = none) (hlen : xs.length ≤ 1000)
    (hv : SetP x dx (xs.take (cut (some i) xs.length 0)) c.vars vs1) (hv' : SetV z (.list (sliceL xs (some i) none)) vs1 vs') (hown : c.env.cells = c.own) (hz : Loc c z) (he : ∀ env, starEach [e] env = [(false, eval e env)])
    (hs : swapsWith (.Call (.Attribute (.Name y yp) "pop_from" apos) [e] [] cpos) (some (.Name z zp)) pos.line c.env = pure false) :
    S1 c (.Assign [.Name z zp] (.Call (.Attribute (.Name y yp) "pop_from" apos) [e] [] cpos) pos) (.next vs') := S1.of_mk fun ok s Q inv h => by
  obtain ⟨pm, cd, doc, fk⟩ := MT.popfK
  refine wpAny_Assign_Name ?_ hs
  refine methodCall_KW ?_ hm
  refine hy ok s _ inv fun v s2 i2 u2 rp nl => ?_
  obtain ⟨rfl, vs2, n2, es2, m2, p2⟩ := pileAt_of rp
  refine pile_getMethod T i2.wd.inK p2.obj p2.dic p2.keys (p2.none (by decide)) MT.popf (tf := "function") (fun _ X => looks_typeIn X MT.popfF) (.inl rfl) ?_
  refine wp_callWith (first := [.ref x]) fk.cal (by rw [he]; rfl) (fun P hp => by rw [he] at hp ⊢; exact evalArgs_plain hp) (args1 h1 he ok i2 fun v1 s3 i3 u3 r1 => ⟨i3.wd, ?_⟩)
  have p3 := p2.up u3
  cases r1
  refine call_pop_from ok hk T fk i3 p3 (own_of_fresh ok.wb hx hd) hlen fun v4 s4 t4 r4 => ?_
  obtain ⟨i4, k4⟩ := turned_inv ok i3 p3.rep hx hd nl.2 t4 hv
  exact wp_store (c := c.wv vs1) (ok.wv _) i4 hown hz hv' r4 trivial fun s5 i5 k5 _ => h s5 i5 ((((u2.trans u3).kp _).trans k4).trans k5)

/-- x.reset(e) -/
theorem S1.reset {c : Cx} {k : Nat} (hk : c.k = k + 1) (T : PileTop c.K) (MT : MethTop c.K) {y : Str} {yp apos cpos pos : Pos} {e : Expr} {x dx : Addr} {xs ys : List F} {vs' : List (Str × D)} {pl : Sem Bool}
    (hm : MethEq c.env (.Name y yp) "reset" apos cpos [e] pl)
    (hy : Ev c (.Name y yp) (.pile x dx xs)) (h1 : Ev c e (.list ys)) (hx : c.B.heap.get? x = none) (hd : c.B.heap.get? dx = none) (hlen : xs.length ≤ 1000) (hlen' : ys.length ≤ 1000)
    (hv : SetP x dx ys c.vars vs') (he : ∀ env, starEach [e] env = [(false, eval e env)]) (hi : interactive c.env = false)
    (hs : swapsWith (.Call (.Attribute (.Name y yp) "reset" apos) [e] [] cpos) none pos.line c.env = pure false) :
    S1 c (.Expr (.Call (.Attribute (.Name y yp) "reset" apos) [e] [] cpos) pos) (.next vs') := S1.of_mk fun ok s Q inv h => by
  obtain ⟨pm, cd, doc, fk⟩ := MT.resetK
  refine wpAny_Expr_any ?_ hi hs
  refine methodCall_KW ?_ hm
  refine hy ok s _ inv fun v s2 i2 u2 rp nl => ?_
  obtain ⟨rfl, vs2, n2, es2, m2, p2⟩ := pileAt_of rp
  refine pile_getMethod T i2.wd.inK p2.obj p2.dic p2.keys (p2.none (by decide)) MT.reset (tf := "function") (fun _ X => looks_typeIn X MT.resetF) (.inl rfl) ?_
  refine wp_callWith (first := [.ref x]) fk.cal (by rw [he]; rfl) (fun P hp => by rw [he] at hp ⊢; exact evalArgs_plain hp) (args1 h1 he ok i2 fun v1 s3 i3 u3 r1 => ⟨i3.wd, ?_⟩)
  have p3 := p2.up u3
  refine call_reset ok hk T fk i3 p3 (own_of_fresh ok.wb hx hd) hlen r1 hlen' fun s4 t4 => ?_
  obtain ⟨i4, k4⟩ := turned_inv ok i3 p3.rep hx hd nl.2 t4 hv
  exact h s4 i4 (((u2.trans u3).kp _).trans k4)

/-- len(x), str(x) -/
theorem Cx.Ok.in1 {c : Cx} (ok : c.Ok) {k : Nat} (hk : c.k = k + 2) : ({ c with A := c.A.in1, k := k + 1 } : Cx).Ok := by
  have h1 := ok.depth
  have h2 := ok.units
  have e1 : c.A.in1.depth ≤ c.A.depth + 5 := by simp [Around.in1]
  have e2 : c.A.in1.units ≤ c.A.units + 50 := by simp [Around.in1]
  exact ⟨ok.handled, by show c.A.in1.depth + 10 * (k + 1) ≤ 990; omega, by show c.A.in1.units + 100 * (k + 1) ≤ 9800; omega, ok.kind, ok.glob, ok.blt, ok.gok, ok.wb, ok.new, ok.ownp, ok.ownB⟩
theorem Cx.Ok.in2 {c : Cx} (ok : c.Ok) {k : Nat} (hk : c.k = k + 2) : ({ c with A := c.A.in1.in1, k := k + 1 } : Cx).Ok := by
  have h1 := ok.depth
  have h2 := ok.units
  have e1 : c.A.in1.in1.depth ≤ c.A.depth + 5 := by simp [Around.in1]
  have e2 : c.A.in1.in1.units ≤ c.A.units + 50 := by simp [Around.in1]
  exact ⟨ok.handled, by show c.A.in1.in1.depth + 10 * (k + 1) ≤ 990; omega, by show c.A.in1.in1.units + 100 * (k + 1) ≤ 9800; omega, ok.kind, ok.glob, ok.blt, ok.gok, ok.wb, ok.new, ok.ownp, ok.ownB⟩
theorem lenP_bound {ps : List (List Nat × List Nat)} (hlen : ps.length ≤ 100) (hps : ∀ p ∈ ps, p.1.length ≤ 1000 ∧ p.2.length ≤ 1000) : 0 ≤ lenP ps ∧ lenP ps ≤ 200000 := by
  have := sum_bound (ps.map fun p => ((p.1.length : Int) + (p.2.length : Int))) ps.length fun x hx => by
    obtain ⟨p, hp, rfl⟩ := List.mem_map.mp hx
    have := hps p hp
    omega
  rw [List.take_of_length_le (by rw [List.length_map]; exact Nat.le_refl _), List.length_map] at this
  unfold lenP
  omega
theorem CallR1.plen {c : Cx} {k : Nat} (hk : c.k = k + 2) (T : PileTop c.K) (MT : MethTop c.K) (GT : GenTop2 c.K) {x dx : Addr} {ps : List (List Nat × List Nat)} (hlen : ps.length ≤ 100) (hps : ∀ p ∈ ps, p.1.length ≤ 1000 ∧ p.2.length ≤ 1000) :
    CallR1 c (.builtin "len") (.pile x dx (ps.map pairF)) (.f (.int (lenP ps))) := fun ok s v Q inv r h => by
  obtain ⟨pm, doc, fk⟩ := MT.lenK
  obtain ⟨rfl, vs2, n2, es2, m2, p2⟩ := pileAt_of r
  refine Calls.call_function_entry kind_len plain_len entry_len (args_len1 _) ?_
  unfold Builtin.«len»
  refine wpAny_bind (m := oneArg "len" _) (wpAny_pure ?_)
  have inv' : ({ c with A := c.A.in1, k := k + 1 } : Cx).Inv s := ⟨⟨inv.wd, inv.up, inv.ns, inv.vars, inv.cel⟩, inv.pos⟩
  refine wpAny_bind (m := callSpecial? (.ref x) (Str.ofString "__len__")) (special_fn inv.wd.inK (C := 133) (ox := pileObj _ vs2 n2) (od := some (dicObj es2 m2)) ⟨p2.obj, rfl, rfl, p2.dic⟩ MT.len MT.lenF ?_)
  refine call_plen (c := { c with A := c.A.in1, k := k + 1 }) (ok.in1 hk) rfl T GT fk inv' p2.rep hlen hps fun s' t u wd => ?_
  obtain ⟨b1, b2⟩ := lenP_bound hlen hps
  refine wpAny_bind (wpAny_holding (wpAny_pure ?_))
  refine wpAny_bind (wpAny_letGo ?_)
  show wpAny _ _ (if lenP ps < 0 then _ else _) _ _ _
  rw [if_neg (by omega)]
  show wpAny _ _ (if lenP ps ≥ 2 ^ 63 then _ else _) _ _ _
  rw [if_neg (by omega)]
  exact wpAny_bind (wpAny_mkInt (wpAny_pure ⟨_, rfl, h _ _ ((inv.up0 wd u).tok ok _) (u.trans Up.tok) (.int _ _) trivial⟩))
theorem CallR1.pstr {c : Cx} {k : Nat} (hk : c.k = k + 2) (T : PileTop c.K) (MT : MethTop c.K) (GT : GenTop2 c.K) {x dx : Addr} {ps : List (List Nat × List Nat)} (hlen : ps.length ≤ 100) (hps : ∀ p ∈ ps, p.1.length ≤ 1000 ∧ p.2.length ≤ 1000) :
    CallR1 c (.type "str") (.pile x dx (ps.map pairF)) (.f (.str (strP ps))) := fun ok s v Q inv r h => by
  obtain ⟨pm, doc, fk⟩ := MT.strK
  obtain ⟨rfl, vs2, n2, es2, m2, p2⟩ := pileAt_of r
  have inv' : ({ c with A := c.A.in1.in1, k := k + 1 } : Cx).Inv s := ⟨⟨inv.wd, inv.up, inv.ns, inv.vars, inv.cel⟩, inv.pos⟩
  refine kso_call (by have h2 := ok.units; have e2 : c.A.in1.in1.units = c.A.units + 1 + 1 := rfl; show c.A.in1.in1.units < cLine; rw [e2]; unfold cLine; omega) inv.wd.inK (C := 133) (ox := pileObj _ vs2 n2) (od := some (dicObj es2 m2)) ⟨p2.obj, rfl, rfl, p2.dic⟩ MT.str (beq_iff_eq.mpr MT.strF) ?_
  refine call_pstr (c := { c with A := c.A.in1.in1, k := k + 1 }) (ok.in2 hk) rfl T GT fk inv' p2.rep hlen hps fun s' t u wd => ?_
  exact h _ _ (inv.up0 wd u) u (.str _ _) trivial
end Mine
end

section
open PySem PySem.W PyProof.Rows PySem.Calls
set_option maxHeartbeats 4000000
namespace Mine

structure NewTop (K : Frag) : Prop extends MakeTop K where
  keep : keepIn (noTabs K) (.ref 133) = true
  name : gval K "_Accumulator" = some (.ref 133)

/-- _Accumulator() -/
theorem EvE.newPile {c : Cx} (T : PileTop c.K) (I : InitTop c.K) (N : NewTop c.K) {p pos : Pos} (hk : c.env.kindOf "_Accumulator" = some .globalImplicit) :
    EvE c (.Call (.Name "_Accumulator" p) [] [] pos) (fun d => ∃ x dx, c.B.heap.get? x = none ∧ c.B.heap.get? dx = none ∧ d = .pile x dx []) := fun ok s Q inv h => by
  refine wpAny_Call_NameR (Ev.glob hk N.name (by decide) ok s _ inv fun v s1 i1 u1 r1 _ => ?_)
  cases r1
  refine callWith_K0 i1.wd.inK N.keep (wpAny_call ?_)
  obtain ⟨hh, g, d, t, os⟩ := s1
  refine make_pile N.toMakeTop T i1.wd.inK fun A' h' x dx hd1 hh1 hu1 fx fdx k hx hdx => ?_
  have dp := ok.depth
  have wd' : Wd c.K ⟨h', g, d, t, os⟩ := i1.wd.keeps k
  have hxne : x ≠ dx := by rintro rfl; rw [hx] at hdx; cases hdx
  refine call_init T I ok.gok wd' (by omega) (own_of_fresh (B := ⟨hh, g, d, t, os⟩) i1.wd fx fdx) hx hdx fun s' n' es m' t0 e1 e2 k2 hx2 hdx2 hini => ⟨rfl, ?_⟩
  have kk : ∀ b o, hh.get? b = some o → s'.heap.get? b = some o := fun b o e => k2 b o (by rintro rfl; rw [fx] at e; cases e) (by rintro rfl; rw [fdx] at e; cases e) (k b o e)
  have up2 : Up ⟨hh, g, d, t, os⟩ s' := ⟨e1, fun h => by rw [e2]; exact h, fun b o e _ => kk b o e, fun P _ ps e => ⟨#[], by rw [Array.append_empty]; exact kk P _ e⟩, fun b o e => ⟨o, kk b o e⟩⟩
  have wd2 : Wd c.K s' := ⟨fun a o e n => kk _ _ (i1.wd.st a o e n), fun P hP => let ⟨ps, hp, ok⟩ := i1.wd.tab P hP; ⟨ps, kk _ _ hp, ok⟩⟩
  have i2 := i1.up0 wd2 up2
  obtain ⟨hsh, tk, hes⟩ := hini
  refine h (.pile x dx []) (.ref x) s' ⟨x, dx, i1.up.none fx, i1.up.none fdx, rfl⟩ i2 (u1.trans up2) ?_ ?_
  · exact PileAt.rep ⟨hx2, hdx2, ⟨hsh, tk, t0, hes⟩, .nil⟩
  · obtain ⟨m, o, es', ep, ho, _⟩ := i1.ns
    have ho' : hh.get? c.env.locals = some o := ho
    exact ⟨(by rintro rfl; rw [fx] at ho'; cases ho'), (by rintro rfl; rw [fdx] at ho'; cases ho')⟩
end Mine
end

section
open PySem PySem.W PyProof.Rows PySem.Calls
set_option maxHeartbeats 4000000
namespace Mine

theorem nn {a b : Nat} (h : a ≠ b) : @Ne Addr a b := h
section
variable {w : World} {A : Around} {E : Value → Shared → Prop} {s : Shared} {n l : Nat} {x : Str} {t : Tok} {k : Nat} {ys : Array Value}

/-- a zip over a text and a list: its five objects stand in a row -/
structure ZipSt (h : Heap) (n l : Nat) (x : Str) (t : Tok) (ys : Array Value) (k : Nat) (f0 : Value) : Prop where
  z : IsZip h (n + 4) (n + 2) (n + 3) f0
  ti : IsPair h (n + 2) (.ref n) (.ref (n + 1))
  to : ∃ a b, IsPair h (n + 3) a b
  i1 : h.IsStrIter n "str_ascii_iterator" x t k
  i2 : h.IsListIter (n + 1) l k
  l : h.IsList l ys
theorem ZipSt.at' {h h' : Heap} {f0 : Value} (S : ZipSt h n l x t ys k f0) (hk : ∀ b o, (b = n ∨ b = n + 1 ∨ b = n + 2 ∨ b = n + 3 ∨ b = n + 4 ∨ b = l) → h.get? b = some o → h'.get? b = some o) : ZipSt h' n l x t ys k f0 :=
  ⟨hk _ _ (by simp) S.z, hk _ _ (by simp) S.ti, let ⟨a, b, e⟩ := S.to; ⟨a, b, hk _ _ (by simp) e⟩, let ⟨o, e, r⟩ := S.i1; ⟨o, hk _ _ (by simp) e, r⟩, let ⟨o, e, r⟩ := S.i2; ⟨o, hk _ _ (by simp) e, r⟩, let ⟨o, e, r⟩ := S.l; ⟨o, hk _ _ (by simp) e, r⟩⟩

theorem zipS_next {c : Nat} {y : Value} {Q : Value → Shared → Prop} (hln : l < n) (S : ZipSt s.heap n l x t ys k .none) (hx : x.cps[k]? = some c) (hy : ys[k]? = some y)
    (hQ : ∀ h', ZipSt h' n l x t ys (k + 1) (rawInt s.heap.objs.size) → IsPair h' s.heap.objs.size (.str ⟨#[c]⟩ s.toks) y → h'.objs.size = s.heap.objs.size + 1 →
      (∀ b o, b ≠ n → b ≠ n + 1 → b ≠ n + 3 → b ≠ n + 4 → s.heap.get? b = some o → h'.get? b = some o) → Q (.ref s.heap.objs.size) { s with heap := h', toks := s.toks + 1 }) :
    wpAny (model PG w) A (Builtin.«zip.__next__» ⟨[.ref (n + 4)], []⟩) (fun fin s' => ∃ v, fin = .done (.ret v) ∧ Q v s') E s := by
  obtain ⟨hz, hTI, ⟨a, b, hTO⟩, h1, h2, hl2⟩ := S
  show wpAny _ _ (field (.ref (n + 4)) 2 >>= _) _ _ _
  refine wpAny_bind (wpAny_field hz rfl (x := .bool false) rfl ?_)
  show wpAny _ _ (field (.ref (n + 4)) 3 >>= _) _ _ _
  refine wpAny_bind (wpAny_field hz rfl (x := .ref (n + 2)) rfl ?_)
  refine wpAny_bind (wpAny_seqItems hTI rfl ?_)
  show wpAny _ _ (Builtin.SmallTypes.ownedTupleIsFree (.ref (n + 4)) >>= _) _ _ _
  refine wpAny_bind ?_
  unfold Builtin.SmallTypes.ownedTupleIsFree
  refine wpAny_bind (wpAny_field hz rfl (x := .none) rfl (wpAny_pure ?_))
  simp only [if_true]
  refine wpAny_bind (wpAny_rule ?_)
  refine wpAny_bind (wpAny_field hz rfl (x := .ref (n + 3)) rfl ?_)
  refine wpAny_bind (wpAny_setField_rec hz (by simp) fun h₁ hz₁ hs₁ => ?_)
  replace hz₁ : IsZip h₁ (n + 4) (n + 2) (n + 3) .ellipsis := hz₁
  refine wpAny_bind ?_
  simp only [List.zipIdx_cons, List.zipIdx_nil, List.forIn_cons, List.forIn_nil]
  refine wpAny_bind (wpAny_bind (wpAny_onRaise ?_))
  show wpAny _ _ (Builtin.SmallTypes.nextOf (.ref n) >>= _) _ _ _
  refine wpAny_bind (wpAny_nextOf_ascii_item (h1.extBut hs₁.extBut (nn (by omega))) hx fun h₂ h1₂ hs₂ => wpAny_pure ?_)
  replace hs₂ : Heap.SameBut n h₁ h₂ := hs₂
  have hTO₂ : IsPair h₂ (n + 3) a b := hs₂.extBut _ _ (nn (by omega)) (hs₁.extBut _ _ (nn (by omega)) hTO)
  refine wpAny_bind (wpAny_seqItems hTO₂ rfl ?_)
  refine wpAny_bind (wpAny_updateSeq_pair hTO₂ fun h₃ hTO₃ hs₃ => ?_)
  replace hs₃ : Heap.SameBut (n + 3) h₂ h₃ := hs₃
  replace hTO₃ : IsPair h₃ (n + 3) (.str ⟨#[c]⟩ s.toks) b := hTO₃
  refine wpAny_bind (wpAny_letGo (wpAny_pure ?_))
  refine wpAny_bind (wpAny_bind (wpAny_onRaise ?_))
  show wpAny _ _ (Builtin.SmallTypes.nextOf (.ref (n + 1)) >>= _) _ _ _
  refine wpAny_bind (wpAny_nextOf_list_item (((h2.extBut hs₁.extBut (nn (by omega))).extBut hs₂.extBut (nn (by omega))).extBut hs₃.extBut (nn (by omega)))
    (((hl2.extBut hs₁.extBut (nn (by omega))).extBut hs₂.extBut (nn (by omega))).extBut hs₃.extBut (nn (by omega))) hy fun h₄ h2₄ hs₄ => wpAny_pure ?_)
  replace hs₄ : Heap.SameBut (n + 1) h₃ h₄ := hs₄
  have hTO₄ : IsPair h₄ (n + 3) (.str ⟨#[c]⟩ s.toks) b := hs₄.extBut _ _ (nn (by omega)) hTO₃
  refine wpAny_bind (wpAny_seqItems hTO₄ rfl ?_)
  refine wpAny_bind (wpAny_updateSeq_pair hTO₄ fun h₅ hTO₅ hs₅ => ?_)
  replace hs₅ : Heap.SameBut (n + 3) h₄ h₅ := hs₅
  replace hTO₅ : IsPair h₅ (n + 3) (.str ⟨#[c]⟩ s.toks) y := hTO₅
  refine wpAny_bind (wpAny_letGo (wpAny_pure (wpAny_pure ?_)))
  refine wpAny_bind (wpAny_seqItems hTO₅ rfl ?_)
  refine wpAny_bind (wpAny_newTuple ?_)
  have hsz : h₅.objs.size = s.heap.objs.size := by rw [hs₅.1, hs₄.1, hs₃.1, hs₂.1, hs₁.1]
  have hz₅ : IsZip h₅ (n + 4) (n + 2) (n + 3) .ellipsis := hs₅.extBut _ _ (nn (by omega)) (hs₄.extBut _ _ (nn (by omega)) (hs₃.extBut _ _ (nn (by omega)) (hs₂.extBut _ _ (nn (by omega)) hz₁)))
  have hk₅ : ∀ c o, c ≠ n + 4 → c ≠ n + 3 → c ≠ n → c ≠ n + 1 → s.heap.get? c = some o → h₅.get? c = some o := fun c o c1 c2 c3 c4 e =>
    hs₅.extBut _ _ c2 (hs₄.extBut _ _ c4 (hs₃.extBut _ _ c2 (hs₂.extBut _ _ c3 (hs₁.extBut _ _ c1 e))))
  have h1₅ : h₅.IsStrIter n "str_ascii_iterator" x t (k + 1) := ((h1₂.extBut hs₃.extBut (nn (by omega))).extBut hs₄.extBut (nn (by omega))).extBut hs₅.extBut (nn (by omega))
  have h2₅ : h₅.IsListIter (n + 1) l (k + 1) := h2₄.extBut hs₅.extBut (nn (by omega))
  have hzlt : n + 4 < h₅.objs.size := Heap.lt_size hz₅
  show wpAny _ _ (Builtin.SmallTypes.ownedTupleHandOut (.ref (n + 4)) (.ref h₅.objs.size) >>= _) _ _ _
  refine wpAny_bind ?_
  unfold Builtin.SmallTypes.ownedTupleHandOut
  have hz₆ : IsZip (h₅.push { cls := .type "tuple", data := .seq #[.str ⟨#[c]⟩ s.toks, y] }) (n + 4) (n + 2) (n + 3) .ellipsis := Heap.get?_push_of_some _ hz₅
  refine wpAny_bind (wpAny_setField_rec hz₆ (by simp) fun h₇ hz₇ hs₇ => ?_)
  replace hz₇ : IsZip h₇ (n + 4) (n + 2) (n + 3) (rawInt h₅.objs.size) := hz₇
  refine wpAny_setField_rec hz₇ (by simp) fun h₈ hz₈ hs₈ => ?_
  replace hz₈ : IsZip h₈ (n + 4) (n + 2) (n + 3) (rawInt h₅.objs.size) := hz₈
  have up : ∀ c o, c ≠ n + 4 → h₅.get? c = some o → h₈.get? c = some o := fun c o c1 e => hs₈.extBut _ _ c1 (hs₇.extBut _ _ c1 (Heap.get?_push_of_some _ e))
  have hT₈ : IsPair h₈ h₅.objs.size (.str ⟨#[c]⟩ s.toks) y := hs₈.extBut _ _ (Nat.ne_of_gt hzlt) (hs₇.extBut _ _ (Nat.ne_of_gt hzlt) (Heap.get?_push_size _ rfl))
  have hz8 : h₈.objs.size = h₅.objs.size + 1 := by rw [hs₈.1, hs₇.1, Heap.size_push]
  rw [hsz] at hz₈ hT₈ hz8
  refine wpAny_pure ⟨_, rfl, ?_⟩
  show Q (.ref h₅.objs.size) _
  rw [hsz]
  exact hQ h₈ ⟨hz₈, up _ _ (nn (by omega)) (hk₅ _ _ (nn (by omega)) (nn (by omega)) (nn (by omega)) (nn (by omega)) hTI), ⟨_, _, up _ _ (nn (by omega)) hTO₅⟩, (let ⟨o, e, r⟩ := h1₅; ⟨o, up _ _ (nn (by omega)) e, r⟩), (let ⟨o, e, r⟩ := h2₅; ⟨o, up _ _ (nn (by omega)) e, r⟩),
    (let ⟨o, e, r⟩ := hl2; ⟨o, up _ _ (nn (by omega)) (hk₅ _ _ (nn (by omega)) (nn (by omega)) (nn (by omega)) (nn (by omega)) e), r⟩)⟩ hT₈ hz8 fun c o c1 c2 c3 c4 e => up c o c4 (hk₅ c o c4 c3 c1 c2 e)

theorem zipS_end {Q : Fin → Shared → Prop} (hh : A.handled = none) (hln : l < n) (S : ZipSt s.heap n l x t ys k .none) (hx : x.cps[k]? = none)
    (hE : ∀ h' e, (∀ b o, b ≠ n → b ≠ n + 1 → b ≠ n + 3 → b ≠ n + 4 → s.heap.get? b = some o → h'.get? b = some o) → (∃ o, h'.get? e = some o ∧ o.cls = .type "StopIteration") → E (.ref e) { s with heap := h' }) :
    wpAny (model PG w) A (Builtin.«zip.__next__» ⟨[.ref (n + 4)], []⟩) Q E s := by
  obtain ⟨hz, hTI, ⟨a, b, hTO⟩, h1, h2, hl2⟩ := S
  show wpAny _ _ (field (.ref (n + 4)) 2 >>= _) _ _ _
  refine wpAny_bind (wpAny_field hz rfl (x := .bool false) rfl ?_)
  show wpAny _ _ (field (.ref (n + 4)) 3 >>= _) _ _ _
  refine wpAny_bind (wpAny_field hz rfl (x := .ref (n + 2)) rfl ?_)
  refine wpAny_bind (wpAny_seqItems hTI rfl ?_)
  show wpAny _ _ (Builtin.SmallTypes.ownedTupleIsFree (.ref (n + 4)) >>= _) _ _ _
  refine wpAny_bind ?_
  unfold Builtin.SmallTypes.ownedTupleIsFree
  refine wpAny_bind (wpAny_field hz rfl (x := .none) rfl (wpAny_pure ?_))
  simp only [if_true]
  refine wpAny_bind (wpAny_rule ?_)
  refine wpAny_bind (wpAny_field hz rfl (x := .ref (n + 3)) rfl ?_)
  refine wpAny_bind (wpAny_setField_rec hz (by simp) fun h₁ hz₁ hs₁ => ?_)
  replace hz₁ : IsZip h₁ (n + 4) (n + 2) (n + 3) .ellipsis := hz₁
  refine wpAny_bind ?_
  simp only [List.zipIdx_cons, List.zipIdx_nil, List.forIn_cons, List.forIn_nil]
  refine wpAny_bind (wpAny_bind (wpAny_onRaise ?_))
  show wpAny _ _ (Builtin.SmallTypes.nextOf (.ref n) >>= _) _ _ _
  refine wpAny_bind (wpAny_nextOf_ascii_end hh (h1.extBut hs₁.extBut (nn (by omega))) hx fun h₂ e hs₂ he => ?_)
  replace hs₂ : Heap.ExtBut n h₁ h₂ := hs₂
  obtain ⟨oe, hoe, hce⟩ := he
  have hz₂ : IsZip h₂ (n + 4) (n + 2) (n + 3) .ellipsis := hs₂ _ _ (nn (by omega)) hz₁
  have hez : e ≠ n + 4 := fun q => by rw [q] at hoe; rw [hz₂] at hoe; cases hoe; simp at hce
  refine wpAny_setField_rec hz₂ (by simp) fun h₃ _ hs₃ => hE h₃ e (fun c o c1 _ _ c4 x => hs₃.extBut _ _ c4 (hs₂ _ _ c1 (hs₁.extBut _ _ c4 x))) ⟨oe, hs₃.extBut _ _ hez hoe, hce⟩

abbrev zs1 (h : Heap) (x : Str) (t : Tok) : Heap := h.push { cls := .type "str_ascii_iterator", data := .fields #[.str x t, .int 0 0] }
abbrev zs2 (h : Heap) (x : Str) (t : Tok) (l : Addr) : Heap := (zs1 h x t).push { cls := .type "list_iterator", data := .fields #[.ref l, .int 0 0] }
abbrev zs3 (h : Heap) (x : Str) (t : Tok) (l : Addr) : Heap := (zs2 h x t l).push { cls := .type "tuple", data := .seq #[.ref h.objs.size, .ref (zs1 h x t).objs.size] }
abbrev zs4 (h : Heap) (x : Str) (t : Tok) (l : Addr) : Heap := (zs3 h x t l).push { cls := .type "tuple", data := .seq #[.none, .none] }
abbrev zs5 (h : Heap) (x : Str) (t : Tok) (l : Addr) : Heap := (zs4 h x t l).push { cls := .type "zip", data := .fields #[.none, .bool false, .bool false, .ref (zs2 h x t l).objs.size, .ref (zs3 h x t l).objs.size] }

theorem meets_zipS (x : Str) (t : Tok) (l : Addr) (ys : Array Value) (ha : x.cps.all (· < 128) = true) :
    Meets (Builtin.«zip.__new__» ⟨[.type "zip", .str x t, .ref l], []⟩) (fun _ R s => s.heap.IsList l ys ∧ R (.ok (.ret (.ref (zs4 s.heap x t l).objs.size))) { s with heap := zs5 s.heap x t l }) :=
  .of_wp fun prog w A R s h => by
    obtain ⟨hp, g, d, tk, os⟩ := s; obtain ⟨hl2, h⟩ := h
    have hsub := sub_zip
    have hL2 : Heap.IsList (Shared.heap ⟨hp.push { cls := .type "str_ascii_iterator", data := .fields #[.str x t, .int 0 0] }, g, d, tk, os⟩) l ys := Heap.IsList.push hl2 _
    wp_walk using wpAny_pyIter_ascii ha, wpAny_pyIter_list hL2
    exact ⟨_, rfl, h⟩
end
end Mine
end

section
open PySem PySem.W PyProof.Rows PySem.Calls
set_option maxHeartbeats 4000000
namespace Mine

/-- data without tuples -/
def F.flat : F → Bool
  | .tup _ => false
  | _ => true
theorem RepF.flatK {h h' : Heap} {v : Value} : ∀ {x : F}, RepF h v x → x.flat = true → RepF h' v x
  | .none, .none, _ => .none
  | .bool _, .bool b, _ => .bool b
  | .int _, .int i t, _ => .int i t
  | .str _, .str l t, _ => .str l t
  | .tup _, _, h => by cases h
theorem RepFs.flatK {h h' : Heap} : ∀ {vs : List Value} {xs : List F}, RepFs h vs xs → (∀ x ∈ xs, x.flat = true) → RepFs h' vs xs
  | _, _, .nil, _ => .nil
  | _, _, .cons a b, hf => .cons (a.flatK (hf _ (.head _))) (RepFs.flatK b fun x hx => hf x (.tail _ hx))

/-- an iterator that uses a tuple of its own again -/
structure WkZ (w : World) (target : Expr) (I : Addr) (own dep : Addr → Prop) (kc : Obj → Prop) (xs : List F) (St : Nat → Heap → Prop) (Mid : Nat → Value → Heap → Prop) : Prop where
  frame : ∀ i h h', St i h → (∀ b o, dep b → kc o → h.get? b = some o → h'.get? b = some o) → St i h'
  item : ∀ (A : Around) i (s : Shared) x (Q : Option Value → Shared → Prop), A.handled = none → xs[i]? = some x → St i s.heap →
    (∀ v h' tk, RepF h' v x → Mid i v h' → (∀ b o, ¬ own b → s.heap.get? b = some o → h'.get? b = some o) → Q (some v) { s with heap := h', toks := tk }) →
    wpAny (model PG w) A (pyNext (.ref I)) Q NoE s
  go : ∀ (A : Around) i (s : Shared) v (Q : Unit → Shared → Prop), A.handled = none → Mid i v s.heap →
    (∀ h' tk, St (i + 1) h' → (∀ b o, ¬ own b → s.heap.get? b = some o → h'.get? b = some o) → KeepT s.heap h' → Q () { s with heap := h', toks := tk }) →
    wpAny (model PG w) A (letOwnedTupleGo target (.ref I) v) Q NoE s
  done : ∀ (A : Around) (s : Shared) (Q : Option Value → Shared → Prop), A.handled = none → St xs.length s.heap →
    (∀ h' tk, (∀ b o, ¬ own b → s.heap.get? b = some o → h'.get? b = some o) → Q none { s with heap := h', toks := tk }) →
    wpAny (model PG w) A (pyNext (.ref I)) Q NoE s
  self : ∀ (A : Around) i (s : Shared) (Q : Value → Shared → Prop), A.handled = none → St i s.heap → Q (.ref I) s → wpAny (model PG w) A (pyIter (.ref I)) Q NoE s
def ItZ (c : Cx) (target e : Expr) (kc : Obj → Prop) (xs : List F) : Prop :=
  c.Ok → ∀ (s : Shared) (Q : Value → Shared → Prop), c.Inv s →
    (∀ I own dep St Mid s', c.Inv s' → Up s s' → WkZ c.w target I own dep kc xs St Mid → St 0 s'.heap → (∀ b, own b → s.heap.get? b = none) → (∀ b, dep b → ∃ o, s'.heap.get? b = some o) → (∀ b, own b → dep b) → Q (.ref I) s') →
    wpAny (model PG c.w) c.A (eval e c.env) (fun x s₁ => wpAny (model PG c.w) c.A (pyIter x) Q NoE s₁) NoE s

theorem comp_coreZ {c : Cx} {elt target iter : Expr} {ifs : List Expr} {scope : Scope} {pos pz : Pos} {cl : List (Str × Addr)} {cap : List (Str × D)} {kc : Obj → Prop} {xs : List F} (p : F → Bool) (g : F → F)
    (hit : ItZ c target iter kc xs) (hkc : ∀ o, kc o → NotTab o) (hn : xs.length ≤ 1000) (hclos : closureFor scope c.env = pure cl) (hcell : ∀ y ∈ scope.names, y.2 ≠ .cell) (hkind : scope.kind = .function)
    (hnames : ∀ y ∈ scope.names, y.2 = .local → scope.names.lookup y.1 = some .local) (hcap : Caps c scope cl cap)
    (hflat : ∀ x ∈ xs, (g x).flat = true)
    (hb : ∀ x ∈ xs, ∃ bs, Tgt target x bs ∧ (∀ q ∈ bs, scope.names.lookup q.1 = some .local) ∧
      (∀ C B, Tests (subC c scope cl C B (dF bs ++ cap)) ifs (p x)) ∧ (p x = true → ∀ C B, Ev (subC c scope cl C B (dF bs ++ cap)) elt (.f (g x))))
    (hs : ∀ x, foldedSetIterable iter c.env x = pure x) (ok : c.Ok) {s : Shared} (inv : c.Inv s) {use : Option (Value → Sem Unit)} {Q : Value → Shared → Prop}
    (h : ∀ DA CA s' vs n m, s.heap.get? DA = none → s.heap.get? CA = none → DA ≠ CA → Up s s' → Wd c.K s' → 1 ≤ s'.toks → s'.heap.Ns CA m → s'.heap.get? DA = some (listObj vs n) → RepFs s'.heap vs ((xs.filter p).map g) →
      compPost (model PG c.w) c.A NoE use Q (.ref DA) CA (.ok .next) s') :
    wpAny (model PG c.w) c.A (comprehension (.ListComp elt [⟨target, iter, ifs, 0⟩] scope pos) scope c.env pz (newList []) false (eval iter c.env) use) Q NoE s := by
  refine wpAny_comprehension_free rfl hs hclos hkind hnames (hit ok s _ inv fun I own dep St Mid s2 i2 u2 W st2 hown hdep hod => ?_)
  -- the list, the names
  refine wpAny_newObj_type (hd := by size_fits) (wpAny_newFunctionEnv hcell (by intro y hy; simp at hy) (fun h₁ hns₁ hsb₁ => ?_) hkind)
  dsimp only at hns₁ hsb₁ ⊢
  generalize hH2 : s2.heap.push { cls := .type "list", dict := none, data := .seq ([] : List Value).toArray } = H2 at hns₁ hsb₁ ⊢
  generalize hDD : s2.heap.objs.size = DA at *
  have hC : H2.objs.size = DA + 1 := by rw [← hH2, Heap.size_push, hDD]
  generalize hCC : H2.objs.size = CA at *
  have hDC : DA ≠ CA := by rw [hC]; exact Nat.ne_of_lt (Nat.lt_succ_self _)
  have freshD : s2.heap.get? DA = none := fresh_size (Nat.le_of_eq hDD)
  have freshC : s2.heap.get? CA = none := fresh_size (by rw [hDD, hC]; exact Nat.le_succ _)
  have freshD0 := u2.none freshD
  have freshC0 := u2.none freshC
  have old : ∀ b o, s2.heap.get? b = some o → h₁.get? b = some o := fun b o e =>
    hsb₁.extBut b o (by rintro rfl; rw [freshC] at e; cases e) (Heap.get?_push_of_some _ (hH2 ▸ Heap.get?_push_of_some _ e))
  have hacc : h₁.get? DA = some (listObj [] 0) := hsb₁.extBut _ _ hDC (Heap.get?_push_of_some _ (by
    have := Heap.get?_push_size s2.heap (o := ({ cls := .type "list", dict := none, data := .seq ([] : List Value).toArray } : Obj)) rfl
    rw [hDD] at this
    exact hH2 ▸ this))
  have ndD : ¬ dep DA := fun hd => by obtain ⟨o, ho⟩ := hdep _ hd; rw [freshD] at ho; cases ho
  have ndC : ¬ dep CA := fun hd => by obtain ⟨o, ho⟩ := hdep _ hd; rw [freshC] at ho; cases ho
  have noD : ¬ own DA := fun hd => ndD (hod _ hd)
  have noC : ¬ own CA := fun hd => ndC (hod _ hd)
  -- the loop
  let Iv : Nat → Shared → Prop := fun k s' => ∃ i vs n, Up s s' ∧ Wd c.K s' ∧ 1 ≤ s'.toks ∧ (∃ m, s'.heap.Ns CA m) ∧ s'.heap.get? DA = some (listObj vs n) ∧ RepFs s'.heap vs (((xs.take i).filter p).map g) ∧
    St i s'.heap ∧ i ≤ xs.length ∧ k = xs.length + 1 - i
  have hfl : ∀ i, ∀ y ∈ ((xs.take i).filter p).map g, y.flat = true := fun i y hy => by
    obtain ⟨z, hz, rfl⟩ := List.mem_map.mp hy
    exact hflat z (List.mem_of_mem_take (List.mem_filter.mp hz).1)
  have henv : ({ (newEnv scope CA c.env.globals cl c.env.qual none .none (some c.env) builtinsNs) with scope := relabel scope c.env } : Env) = compEnvC scope cl CA c.env := rfl
  have loop : ∀ s3 : Shared, Iv (xs.length + 1) s3 → codeAny (model PG c.w) c.A (.compLoop (.ListComp elt [⟨target, iter, ifs, 0⟩] scope pos) 0 (.ref I) (.ref DA) (compEnvC scope cl CA c.env))
      (compPost (model PG c.w) c.A NoE use Q (.ref DA) CA) s3 := by
    intro s3 h3
    refine compLoop_own Iv ?_ _ h3
    rintro k s' ⟨i, vs, n, us, wd', pos', ⟨m, ns'⟩, hD', hR, hst', hi, rfl⟩
    -- a step that leaves what stood, and the list and the names
    cases hx : xs[i]? with
    | none =>
      have hin : i = xs.length := by
        have : xs.length ≤ i := by simpa using hx
        omega
      subst hin
      refine wpAny_with_toks pos' (toE (W.done c.A s' _ ok.handled hst' fun h'' tk hk pos2 => ?_))
      have st : ∀ b o, (∃ o', s.heap.get? b = some o') → s'.heap.get? b = some o → h''.get? b = some o := fun b o ⟨o', e'⟩ e => hk b o (fun hb => by rw [hown b hb] at e'; cases e') e
      have ns2 : h''.Ns CA m := ns'.at' fun o e => hk CA o noC e
      rw [List.take_length] at hR
      exact h DA CA _ vs n m freshD0 freshC0 hDC (us.step st) (inv.wd.step wd' st) pos2 ns2 (hk DA _ noD hD') (hR.flatK fun y hy => hfl xs.length y (by rw [List.take_length]; exact hy))
    | some x =>
      have hlt : i < xs.length := (List.getElem?_eq_some_iff.mp hx).1
      have hmem : x ∈ xs := List.mem_of_getElem? hx
      obtain ⟨bs, T, hbl, htests, helt⟩ := hb x hmem
      refine wpAny_with_toks pos' (toE (W.item c.A i s' x _ ok.handled hx hst' fun v h1 tk1 rv st1 hk1 pos1 => ?_))
      have step1 : ∀ b o, (∃ o', s.heap.get? b = some o') → s'.heap.get? b = some o → h1.get? b = some o := fun b o ⟨o', e'⟩ e => hk1 b o (fun hb => by rw [hown b hb] at e'; cases e') e
      have us1 : Up s { s' with heap := h1, toks := tk1 } := us.step step1
      have wd1 := inv.wd.step wd' step1 (tk := tk1)
      have hD1 : h1.get? DA = some (listObj vs n) := hk1 DA _ noD hD'
      have ns1 : h1.Ns CA m := ns'.at' fun o e => hk1 CA o noC e
      have hR1 : RepFs h1 vs (((xs.take i).filter p).map g) := hR.flatK (hfl _)
      refine wpAny_with_toks (s := { s' with heap := h1, toks := tk1 }) pos1 (toE (W.go c.A i { s' with heap := h1, toks := tk1 } v _ ok.handled st1 fun h2 tk2 st2' hk2 kt2 pos2 => ?_))
      have step2 : ∀ b o, (∃ o', s.heap.get? b = some o') → h1.get? b = some o → h2.get? b = some o := fun b o ⟨o', e'⟩ e => hk2 b o (fun hb => by rw [hown b hb] at e'; cases e') e
      have us2 : Up s { s' with heap := h2, toks := tk2 } := us1.step step2
      have wd2 := inv.wd.step wd1 step2 (tk := tk2)
      have hD2 : h2.get? DA = some (listObj vs n) := hk2 DA _ noD hD1
      have ns2 : h2.Ns CA m := ns1.at' fun o e => hk2 CA o noC e
      have hR2 := hR1.keepT kt2
      have rv2 := rv.keepT kt2
      refine wpAny_with_toks (s := { s' with heap := h2, toks := tk2 }) pos2 (toE (wp_assign (env := compEnvC scope cl CA c.env) ok.handled hkind T (fun q hq => lookup_relabel_local (hbl q hq)) ns2 rv2 fun h3 tk3 m3 ns3 hm3 _ hk3 kd3 pos3 => ?_))
      have step3 : ∀ b o, (∃ o', s.heap.get? b = some o') → h2.get? b = some o → h3.get? b = some o := fun b o ⟨o', e'⟩ e => hk3 b o (fun hb => by
        have hb' : b = CA := hb
        rw [hb', freshC0] at e'; cases e') e
      have us3 : Up s { s' with heap := h3, toks := tk3 } := us2.step step3
      have wd3 := inv.wd.step wd2 step3 (tk := tk3)
      have hD3 : h3.get? DA = some (listObj vs n) := hk3 DA _ hDC hD2
      have hR3 := hR2.keepT kd3.keepT
      have st3 : St (i + 1) h3 := W.frame _ _ _ st2' (fun b o hb _ e => hk3 b o (fun e' => ndC (by have e'' : b = CA := e'; rw [← e'']; exact hb)) e)
      -- the inner frame
      have ok3 : (subC c scope cl CA s (dF bs ++ cap)).Ok := ⟨ok.handled, ok.depth, ok.units, hkind, ok.glob, ok.blt, ok.gok, inv.wd, freshC0, .nil, fun _ h => nomatch h⟩
      have i3 : (subC c scope cl CA s (dF bs ++ cap)).Inv { s' with heap := h3, toks := tk3 } := by
        refine ⟨⟨wd3, us3, ⟨m3, ns3⟩, fun q hq => ?_, fun _ h => nomatch h⟩, pos3⟩
        rcases List.mem_append.mp hq with hq | hq
        · obtain ⟨q0, hq0, rfl⟩ := List.mem_map.mp hq
          obtain ⟨v0, e0, r0⟩ := hm3 q0 hq0
          exact ⟨v0, .inl ⟨lookup_relabel_local (hbl q0 hq0), m3, ns3, e0⟩, r0, trivial⟩
        · have caps := hcap.has (C := CA) (h := s.heap) inv.vars (fun v d r => r.notFresh freshC0) q hq
          exact caps.up us3
      refine tests_wp (htests CA s) ok3 i3 fun s4 i4 u4 => ?_
      have hD4 : s4.heap.get? DA = some (listObj vs n) := u4.get hD3 (.inl nofun)
      have hR4 := hR3.keepT u4.keepT
      have st4 : St (i + 1) s4.heap := W.frame _ _ _ st3 (fun b o hb nt e => u4.get e (hkc _ nt))
      have us4 := us3.trans u4
      cases hp : p x with
      | false =>
        simp only [Bool.false_eq_true, if_false]
        refine ⟨xs.length + 1 - (i + 1), by omega, i + 1, vs, n, us4, i4.wd, i4.pos, let ⟨m, n⟩ := i4.ns; ⟨m, n⟩, hD4, ?_, st4, hlt, rfl⟩
        rw [take_succ_filter p _ i x hx, hp]; simpa using hR4
      | true =>
        simp only [if_true]
        refine helt hp CA s ok3 s4 _ i4 fun y s5 i5 u5 r5 _ => ?_
        have hD5 : s5.heap.get? DA = some (listObj vs n) := u5.get hD4 (.inl nofun)
        have hR5 := hR4.keepT u5.keepT
        have st5 : St (i + 1) s5.heap := W.frame _ _ _ st4 (fun b o hb nt e => u5.get e (hkc _ nt))
        have us5 := us4.trans u5
        have hlen : vs.length ≤ 1000000 := by
          rw [hR.length, List.length_map]
          have e2 : ((xs.take i).filter p).length ≤ (xs.take i).length := List.length_filter_le _ _
          have e3 : (xs.take i).length ≤ xs.length := by rw [List.length_take]; omega
          omega
        refine wpAny_appendP hD5 hlen fun h6 n6 hD6 hs6 => ?_
        have kt6 : KeepT s5.heap h6 := fun b o e hc _ => by
          have : b ≠ DA := by rintro rfl; rw [hD5] at e; cases e; simp at hc
          exact hs6.extBut b o this e
        have step6 : ∀ b o, (∃ o', s.heap.get? b = some o') → s5.heap.get? b = some o → h6.get? b = some o := fun b o ⟨o', e'⟩ e => hs6.extBut b o (by rintro rfl; rw [freshD0] at e'; cases e') e
        obtain ⟨m5, ns5⟩ := i5.ns
        refine ⟨xs.length + 1 - (i + 1), by omega, i + 1, vs ++ [y], n6, us5.step step6, inv.wd.step i5.wd step6, i5.pos, ⟨m5, ns5.sameBut hs6 (Ne.symm hDC)⟩, hD6, ?_, ?_, hlt, rfl⟩
        · rw [take_succ_filter p _ i x hx, hp, if_pos rfl, List.map_append]
          exact (hR5.keepT kt6).snoc (RepF.keepT kt6 r5)
        · exact W.frame _ _ _ st5 (fun b o hb _ e => hs6.extBut b o (fun e' => ndD (e' ▸ hb)) e)
  have start : ∀ s3 : Shared, s3 = { s2 with heap := h₁, toks := s2.toks + ([] : List (Str × Value)).length } → Iv (xs.length + 1) s3 := by
    rintro s3 rfl
    have u3 : Up s2 { s2 with heap := h₁, toks := s2.toks + ([] : List (Str × Value)).length } := Up.of old
    exact ⟨0, [], 0, u2.trans u3, i2.wd.keeps old, Nat.le_add_right_of_le i2.pos, ⟨_, hns₁⟩, hacc, .nil, W.frame _ _ _ st2 (fun b o _ _ e => old b o e), Nat.zero_le _, rfl⟩
  exact codeAny_compStart_list (loop _ (start _ rfl)) (toE (W.self c.A 0 _ _ ok.handled (W.frame _ _ _ st2 (fun b o _ _ e => old b o e)) (loop _ (start _ rfl))))


theorem Ev.compZ {c : Cx} {elt target iter : Expr} {ifs : List Expr} {scope : Scope} {pos : Pos} {cl : List (Str × Addr)} {cap : List (Str × D)} {kc : Obj → Prop} {xs : List F} (p : F → Bool) (g : F → F)
    (hit : ItZ c target iter kc xs) (hkc : ∀ o, kc o → NotTab o) (hn : xs.length ≤ 1000) (hclos : closureFor scope c.env = pure cl) (hcell : ∀ y ∈ scope.names, y.2 ≠ .cell) (hkind : scope.kind = .function)
    (hnames : ∀ y ∈ scope.names, y.2 = .local → scope.names.lookup y.1 = some .local) (hcap : Caps c scope cl cap)
    (hflat : ∀ x ∈ xs, (g x).flat = true)
    (hb : ∀ x ∈ xs, ∃ bs, Tgt target x bs ∧ (∀ q ∈ bs, scope.names.lookup q.1 = some .local) ∧
      (∀ C B, Tests (subC c scope cl C B (dF bs ++ cap)) ifs (p x)) ∧ (p x = true → ∀ C B, Ev (subC c scope cl C B (dF bs ++ cap)) elt (.f (g x))))
    (hs : ∀ x, foldedSetIterable iter c.env x = pure x := by intro _; rfl) : Ev c (.ListComp elt [⟨target, iter, ifs, 0⟩] scope pos) (.list ((xs.filter p).map g)) :=
  Ev.mk fun ok s Q inv h => by
  rw [eval_ListComp]
  refine comp_coreZ p g hit hkc hn hclos hcell hkind hnames hcap hflat hb hs ok inv fun DA CA s' vs n m hD hC hDC us wd' pos' ns' hD' hR => ?_
  refine ⟨m, ns', fun h3 hs3 => ?_⟩
  have st3 : ∀ b o, (∃ o', s.heap.get? b = some o') → s'.heap.get? b = some o → h3.get? b = some o := fun b o ex e => hs3.extBut b o (by rintro rfl; obtain ⟨o', e'⟩ := ex; rw [hC] at e'; cases e') e
  have us3 : Up s { s' with heap := h3 } := us.step st3
  exact h _ _ ⟨inv.wd.step wd' st3, inv.up.trans us3, let ⟨m0, n0⟩ := inv.ns; ⟨m0, ns_up us3 n0⟩, fun q hq => (inv.vars q hq).up us3, fun q hq => let ⟨v, hc⟩ := inv.cel q hq; ⟨v, cell_up us3 hc⟩⟩ us3 ⟨DA, vs, n, rfl, hs3.extBut _ _ hDC hD', hR.keepT (KeepT.ns ns' hs3)⟩ trivial

end Mine
end

section
open PySem PySem.W PyProof.Rows PySem.Calls
set_option maxHeartbeats 4000000
namespace Mine

def kcZ (o : Obj) : Prop := isIt o ∨ isSeqT "tuple" o ∨ isSeqT "list" o
theorem kcZ.notTab {o : Obj} : kcZ o → NotTab o
  | .inl ⟨n, _, h, _⟩ => .inl (by rw [h]; nofun)
  | .inr (.inl ⟨h, _⟩) => .inl (by rw [h]; nofun)
  | .inr (.inr ⟨h, _⟩) => .inl (by rw [h]; nofun)
def zipF : List Nat → List F → List F
  | c :: r, y :: ys => .tup [.str [c], y] :: zipF r ys
  | _, _ => []
theorem zipF_get : ∀ {x : List Nat} {ys : List F} {i : Nat} {z : F}, (zipF x ys)[i]? = some z → ∃ c y, x[i]? = some c ∧ ys[i]? = some y ∧ z = .tup [.str [c], y]
  | [], ys, i, z, h => by simp [zipF] at h
  | c :: r, [], i, z, h => by simp [zipF] at h
  | c :: r, y :: ys, 0, z, h => by simp [zipF] at h; exact ⟨c, y, rfl, rfl, h.symm⟩
  | c :: r, y :: ys, i + 1, z, h => by simpa using zipF_get (x := r) (ys := ys) (by simpa [zipF] using h)
theorem zipF_len : ∀ {x : List Nat} {ys : List F}, x.length = ys.length → (zipF x ys).length = x.length
  | [], _, _ => rfl
  | c :: r, [], h => by simp at h
  | c :: r, y :: ys, h => by simp [zipF, zipF_len (x := r) (ys := ys) (by simpa using h)]

theorem ZipSt.kc {h h' : Heap} {n l : Nat} {x : Str} {t : Tok} {ys : Array Value} {k : Nat} {f0 : Value} (S : ZipSt h n l x t ys k f0) (hk : ∀ b o, (b = n ∨ b = n + 1 ∨ b = n + 2 ∨ b = n + 3 ∨ b = n + 4 ∨ b = l) → kcZ o → h.get? b = some o → h'.get? b = some o) : ZipSt h' n l x t ys k f0 := by
  refine S.at' fun b o hb e => hk b o hb ?_ e
  obtain ⟨z, ti, ⟨a, b', to⟩, ⟨o1, i1, c1, d1⟩, ⟨o2, i2, c2, d2⟩, ⟨o3, l3, c3, n3, d3⟩⟩ := S
  rcases hb with rfl | rfl | rfl | rfl | rfl | rfl
  · rw [i1] at e; cases e; exact .inl ⟨_, _, c1, d1⟩
  · rw [i2] at e; cases e; exact .inl ⟨_, _, c2, d2⟩
  · rw [ti] at e; cases e; exact .inr (.inl ⟨rfl, _, _, rfl⟩)
  · rw [to] at e; cases e; exact .inr (.inl ⟨rfl, _, _, rfl⟩)
  · rw [z] at e; cases e; exact .inl ⟨_, _, rfl, rfl⟩
  · rw [l3] at e; cases e; exact .inr (.inr ⟨c3, _, _, d3⟩)

/-- zip(e, e') as a source -/
theorem ItZ.zip {c : Cx} {p pos tp : Pos} {tk : Nat} {elts : List Expr} {e e' : Expr} {x : List Nat} {ys : List F} (hf : Ev c (.Name "zip" p) (.val (.type "zip"))) (h1 : Ev c e (.f (.str x))) (h2 : Ev c e' (.list ys)) (ha : x.all (· < 128) = true) (hlen : x.length = ys.length)
    (hfl : ∀ y ∈ ys, y.flat = true) (he : ∀ env, starEach [e, e'] env = [(false, eval e env), (false, eval e' env)] := by intro _; rfl) : ItZ c (.Tuple elts tk tp) (.Call (.Name "zip" p) [e, e'] [] pos) kcZ (zipF x ys) := fun ok s Q inv h => by
  refine wpAny_with_toks inv.pos (toE ?_)
  refine wpAny_Call_NameR (hf ok s _ inv fun v0 s0 i0 u0 r0 _ => ?_)
  cases r0
  refine wp_callWith (first := []) (.inr (.inl ⟨_, rfl⟩)) (by rw [he]; rfl) (fun P hp => by rw [he] at hp ⊢; exact evalArgs_plain hp) (args2 h1 h2 he ok i0 fun v v' s1 i1 u1 r1 r2 => ⟨i1.wd, ?_⟩)
  cases r1
  rename_i t
  obtain ⟨l, vs, k, rfl, ho, hl, q⟩ := list_is r2
  have ha' : (⟨x.toArray⟩ : Str).cps.all (· < 128) = true := by simpa using ha
  refine callType_new PySem.F.called_zip (by decide) (PySem.F.typeCall_zip_2 _ _) (PySem.F.newCall_zip_2 _ _) (fun obj => PySem.F.args_object_init_3 obj _ _) PySem.F.entry_zip_new (meets_zipS ⟨x.toArray⟩ t l vs.toArray ha') ⟨hl, ?_⟩
  generalize hn : s1.heap.objs.size = n
  have hln : @LT.lt Nat _ l n := hn ▸ Heap.lt_size ho
  have z1 : (zs1 s1.heap ⟨x.toArray⟩ t).objs.size = n + 1 := by rw [← hn]; exact Heap.size_push ..
  have z2 : (zs2 s1.heap ⟨x.toArray⟩ t l).objs.size = n + 2 := by rw [Heap.size_push, z1]
  have z3 : (zs3 s1.heap ⟨x.toArray⟩ t l).objs.size = n + 3 := by rw [Heap.size_push, z2]
  have z4 : (zs4 s1.heap ⟨x.toArray⟩ t l).objs.size = n + 4 := by rw [Heap.size_push, z3]
  have g5 : (zs5 s1.heap ⟨x.toArray⟩ t l).get? (zs4 s1.heap ⟨x.toArray⟩ t l).objs.size = some _ := Heap.get?_push_size _ rfl
  have g4 : (zs5 s1.heap ⟨x.toArray⟩ t l).get? (zs3 s1.heap ⟨x.toArray⟩ t l).objs.size = some _ := Heap.get?_push_of_some _ (Heap.get?_push_size _ rfl)
  have g3 : (zs5 s1.heap ⟨x.toArray⟩ t l).get? (zs2 s1.heap ⟨x.toArray⟩ t l).objs.size = some _ := Heap.get?_push_of_some _ (Heap.get?_push_of_some _ (Heap.get?_push_size _ rfl))
  have g2 : (zs5 s1.heap ⟨x.toArray⟩ t l).get? (zs1 s1.heap ⟨x.toArray⟩ t).objs.size = some _ := Heap.get?_push_of_some _ (Heap.get?_push_of_some _ (Heap.get?_push_of_some _ (Heap.get?_push_size _ rfl)))
  have g1 : (zs5 s1.heap ⟨x.toArray⟩ t l).get? s1.heap.objs.size = some _ := Heap.get?_push_of_some _ (Heap.get?_push_of_some _ (Heap.get?_push_of_some _ (Heap.get?_push_of_some _ (Heap.get?_push_size _ rfl))))
  have kk : ∀ b o, s1.heap.get? b = some o → (zs5 s1.heap ⟨x.toArray⟩ t l).get? b = some o := fun b o e => Heap.get?_push_of_some _ (Heap.get?_push_of_some _ (Heap.get?_push_of_some _ (Heap.get?_push_of_some _ (Heap.get?_push_of_some _ e))))
  have fresh : ∀ b : Nat, n ≤ b → s1.heap.get? b = none := fun b hb => fresh_size (by rw [hn]; exact hb)
  rw [z2, z3, z4] at g5
  rw [z1, z2] at g3
  rw [z3] at g4
  rw [z1] at g2
  show _ ∧ _
  rw [z4]
  rw [hn] at g1 g3
  have S0 : ZipSt (zs5 s1.heap ⟨x.toArray⟩ t l) n l ⟨x.toArray⟩ t vs.toArray 0 .none := ⟨g5, g3, ⟨_, _, g4⟩, ⟨_, g1, rfl, rfl⟩, ⟨_, g2, rfl, rfl⟩, ⟨_, kk _ _ ho, rfl, k, rfl⟩⟩
  generalize zs5 s1.heap ⟨x.toArray⟩ t l = H at S0 kk ⊢
  refine ⟨⟨_, S0.z, rfl⟩, fun pos5 => wpAny_pyIter_zip S0.z ?_⟩
  have sz : ∀ {h : Heap} {k f0}, ZipSt h n l ⟨x.toArray⟩ t vs.toArray k f0 → n + 4 < h.objs.size := fun S => Heap.lt_size S.z
  refine h (n + 4) (fun b => b = n ∨ b = n + 1 ∨ b = n + 3 ∨ b = n + 4) (fun b => b = n ∨ b = n + 1 ∨ b = n + 2 ∨ b = n + 3 ∨ b = n + 4 ∨ b = l) (fun i h => ZipSt h n l ⟨x.toArray⟩ t vs.toArray i .none)
    (fun i v h => ∃ T, v = .ref T ∧ ZipSt h n l ⟨x.toArray⟩ t vs.toArray (i + 1) (rawInt T)) _ ⟨i1.keeps0 ok kk, pos5⟩ ((u0.trans u1).trans (Up.of kk)) ⟨?_, ?_, ?_, ?_, ?_⟩ S0 ?_ ?_ ?_
  · intro i h1 h2 S hk
    exact S.kc hk
  · intro A i s2 z Q2 hA hz S hQ2
    obtain ⟨ch, y, hx, hy, rfl⟩ := zipF_get hz
    obtain ⟨u, hu, ru⟩ := q.get hy
    have hT : s2.TypeIs (.ref (n + 4)) "zip" := ⟨_, S.z, rfl⟩
    unfold pyNext
    refine wpAny_bind (wpAny_attempt (wpAny_callSpecial?_slot (name := Str.ofString "__next__") hT PySem.F.slot_zip_next
      (wpAny_call_entry PySem.F.slot_zip_next hT PySem.F.entry_zip_next (zipS_next hln S (c := ch) (y := u) (by simpa using hx) (by simpa using hu) fun h' S' hp hs' hk => wpAny_pure ?_) (PySem.F.args_zip_next_1 _))))
    refine hQ2 _ _ _ ?_ ⟨_, rfl, S'⟩ fun b o hb e => hk b o (fun e => hb (.inl e)) (fun e => hb (.inr (.inl e))) (fun e => hb (.inr (.inr (.inl e)))) (fun e => hb (.inr (.inr (.inr e)))) e
    exact .tup (vs := [.str ⟨#[ch]⟩ s2.toks, u]) ⟨_, hp, rfl, _, rfl⟩ (.cons (.str [ch] _) (.cons (ru.flatK (hfl y (List.mem_of_getElem? hy))) .nil))
  · rintro A i s2 v Q2 hA ⟨T, rfl, S⟩ hQ2
    refine wpAny_letOwnedTupleGo_zip S.z fun h' hz' hs' => ?_
    replace hs' : Heap.SameBut (n + 4) s2.heap h' := hs'
    have ex : ∀ b o, b ≠ n + 4 → s2.heap.get? b = some o → h'.get? b = some o := fun b o hb e => hs'.extBut b o hb e
    refine hQ2 h' s2.toks ?_ (fun b o hb e => ex b o (fun e => hb (.inr (.inr (.inr e)))) e) fun b o e hc _ => ex b o ?_ e
    · obtain ⟨z, ti, ⟨a, b', to⟩, ⟨o1, i1, c1, d1⟩, ⟨o2, i2, c2, d2⟩, ⟨o3, l3, c3, n3, d3⟩⟩ := S
      exact ⟨hz', ex _ _ (nn (by omega)) ti, ⟨a, b', ex _ _ (nn (by omega)) to⟩, ⟨o1, ex _ _ (nn (by omega)) i1, c1, d1⟩, ⟨o2, ex _ _ (nn (by omega)) i2, c2, d2⟩, ⟨o3, ex _ _ (nn (by omega)) l3, c3, n3, d3⟩⟩
    · rintro rfl
      rw [S.z] at e; cases e; simp at hc
  · intro A s2 Q2 hA S hQ2
    have hT : s2.TypeIs (.ref (n + 4)) "zip" := ⟨_, S.z, rfl⟩
    rw [zipF_len hlen] at S
    unfold pyNext
    refine wpAny_bind (wpAny_attempt (wpAny_callSpecial?_slot (name := Str.ofString "__next__") hT PySem.F.slot_zip_next
      (wpAny_call_entry PySem.F.slot_zip_next hT PySem.F.entry_zip_next (zipS_end hA hln S (by simp) fun h' e hk he => ?_) (PySem.F.args_zip_next_1 _))))
    obtain ⟨o, ho, hc⟩ := he
    refine wpAny_bind (wpAny_isInstance (T := "StopIteration") (b := true) ⟨o, ho, hc⟩ isSubtype_stop ?_)
    exact wpAny_pure (hQ2 _ _ fun b o hb e => hk b o (fun e => hb (.inl e)) (fun e => hb (.inr (.inl e))) (fun e => hb (.inr (.inr (.inl e)))) (fun e => hb (.inr (.inr (.inr e)))) e)
  · intro A i s2 Q2 hA S hQ2
    exact wpAny_pyIter_zip S.z hQ2
  · rintro b (rfl | rfl | rfl | rfl)
    · exact (u0.trans u1).none (fresh _ (by omega))
    · exact (u0.trans u1).none (fresh _ (by omega))
    · exact (u0.trans u1).none (fresh _ (by omega))
    · exact (u0.trans u1).none (fresh _ (by omega))
  · obtain ⟨z, ti, ⟨a, b', to⟩, ⟨o1, i1, c1, d1⟩, ⟨o2, i2, c2, d2⟩, ⟨o3, l3, c3, n3, d3⟩⟩ := S0
    rintro b (rfl | rfl | rfl | rfl | rfl | rfl)
    · exact ⟨_, i1⟩
    · exact ⟨_, i2⟩
    · exact ⟨_, ti⟩
    · exact ⟨_, to⟩
    · exact ⟨_, z⟩
    · exact ⟨_, l3⟩
  · rintro b (rfl | rfl | rfl | rfl) <;> simp
end Mine
end

section
open PySem PySem.W PyProof.Rows PySem.Calls PyProof.V PySem.Spec
set_option maxHeartbeats 4000000
namespace Mine

theorem strCanLay : ∀ ns : List Str, (∀ x ∈ ns, PyData.strOk x = true) → PyData.canLayAll0 (ns.map PyData.str) = true
  | [], _ => rfl
  | y :: r, h => by simp [PyData.canLayAll0, PyData.canLay0, h y (.head _), strCanLay r fun x hx => h x (.tail _ hx)]
theorem strDepth : ∀ ns : List Str, PyData.depthAll (ns.map PyData.str) = 0
  | [] => rfl
  | _ :: r => by simp [PyData.depthAll, PyData.depth, strDepth r]
theorem strShaped (ns : List Str) (h : ∀ x ∈ ns, PyData.strOk x = true) : SeqAt.shaped (.list (ns.map PyData.str)) = true := by
  simp [SeqAt.shaped, PyData.canLay0, PyData.depth, strCanLay _ h, strDepth]
theorem strSameAll : ∀ ns ms : List Str, PySem.Spec.sameAll (ns.map PyData.str) (ms.map PyData.str) = decide (ns = ms)
  | [], [] => by simp [PySem.Spec.sameAll]
  | [], _ :: _ => by simp [PySem.Spec.sameAll]
  | _ :: _, [] => by simp [PySem.Spec.sameAll]
  | a :: r, b :: t => by
    simp only [List.map_cons, PySem.Spec.sameAll, PySem.Spec.same, strSameAll r t]
    by_cases h : a = b <;> by_cases h' : r = t <;> simp [h, h']
theorem strSame (ns ms : List Str) : PySem.Spec.same (.list (ns.map PyData.str)) (.list (ms.map PyData.str)) = decide (ns = ms) := by
  simp only [PySem.Spec.same]; exact strSameAll ns ms
theorem strCarried : ∀ (l : List (Str × Tok)), CarriedAll (strValues l) ((l.map (·.1)).map PyData.str)
  | [] => .nil
  | (y, t) :: r => .cons (.str y t) (strCarried r)
abbrev toS (l : List Nat) : Str := ⟨l.toArray⟩
theorem toS_inj {a b : List (List Nat)} : (a.map toS = b.map toS) = (a = b) := by
  apply propext
  constructor
  · intro h
    induction a generalizing b with
    | nil => cases b with
      | nil => rfl
      | cons _ _ => simp at h
    | cons x r ih => cases b with
      | nil => simp at h
      | cons y t =>
        simp only [List.map_cons, List.cons.injEq] at h
        obtain ⟨h1, h2⟩ := h
        have : x = y := by injection h1 with h1; injection h1
        rw [this, ih h2]
  · intro h; rw [h]
def okT (as : List (List Nat)) : Prop := ∀ a ∈ as, PyData.strOk (toS a) = true
theorem okT.all {as : List (List Nat)} (h : okT as) : ∀ x ∈ as.map toS, PyData.strOk x = true := fun x hx => by
  obtain ⟨a, ha, rfl⟩ := List.mem_map.mp hx
  exact h a ha
theorem CmpR.eqL {c : Cx} (hk : 1 ≤ c.k) {as bs : List (List Nat)} (ha : okT as) (hb : okT bs) : CmpR c .Eq (.list (as.map F.str)) (.list (bs.map F.str)) (decide (as = bs)) := fun ok s v1 v2 Q inv r1 r2 h => by
  obtain ⟨l1, vs, n1, rfl, ho1, hl1, q1⟩ := list_is r1
  obtain ⟨l2, ws, n2, rfl, ho2, hl2, q2⟩ := list_is r2
  obtain ⟨a, rfl, ea⟩ := strs_of q1
  obtain ⟨b, rfl, eb⟩ := strs_of q2
  have hu := ok.units
  refine eq_dataH_same (reads_newData hl1 (strCarried a)) (reads_newData hl2 (strCarried b)) (strShaped _ (by rw [ea]; exact ha.all)) (strShaped _ (by rw [eb]; exact hb.all)) (by unfold cLine; omega) (SeqAt.noMix_of_shape (.list .str) rfl _ _ (list_map_has fun _ => rfl) (list_map_has fun _ => rfl)) ?_
  rw [strSame, ea, eb]
  have : (decide (as.map toS = bs.map toS)) = decide (as = bs) := by simp only [toS_inj]
  rw [this]
  exact h s inv.toInv0 (Up.refl s)
theorem CmpR.neL {c : Cx} (hk : 1 ≤ c.k) {as bs : List (List Nat)} (ha : okT as) (hb : okT bs) : CmpR c .NotEq (.list (as.map F.str)) (.list (bs.map F.str)) (!decide (as = bs)) := fun ok s v1 v2 Q inv r1 r2 h => by
  obtain ⟨l1, vs, n1, rfl, ho1, hl1, q1⟩ := list_is r1
  obtain ⟨l2, ws, n2, rfl, ho2, hl2, q2⟩ := list_is r2
  obtain ⟨a, rfl, ea⟩ := strs_of q1
  obtain ⟨b, rfl, eb⟩ := strs_of q2
  have hu := ok.units
  refine ne_dataH_same (reads_newData hl1 (strCarried a)) (reads_newData hl2 (strCarried b)) (strShaped _ (by rw [ea]; exact ha.all)) (strShaped _ (by rw [eb]; exact hb.all)) (by unfold cLine; omega) (SeqAt.noMix_of_shape (.list .str) rfl _ _ (list_map_has fun _ => rfl) (list_map_has fun _ => rfl)) ?_
  rw [strSame, ea, eb]
  have : (decide (as.map toS = bs.map toS)) = decide (as = bs) := by simp only [toS_inj]
  rw [this]
  exact h s inv.toInv0 (Up.refl s)

/-- e[lo::k] -/
def stepL {α : Type} (xs : List α) (lo st : Option Int) : List α := (sliceRange (sliceBounds lo none st xs.length).1 (sliceBounds lo none st xs.length).2.1 (sliceBounds lo none st xs.length).2.2).filterMap (xs[·]?)
theorem RepFs.pick {h : Heap} {vs : List Value} {xs : List F} (r : RepFs h vs xs) : ∀ is : List Nat, RepFs h (is.filterMap (vs[·]?)) (is.filterMap (xs[·]?))
  | [] => .nil
  | i :: is => by
    cases hx : xs[i]? with
    | none =>
      have : vs[i]? = none := by
        have : xs.length ≤ i := by simpa using hx
        simp [r.length]; omega
      rw [List.filterMap_cons_none this, List.filterMap_cons_none hx]
      exact r.pick is
    | some x =>
      obtain ⟨v, hv, rv⟩ := r.get hx
      rw [List.filterMap_cons_some hv, List.filterMap_cons_some hx]
      exact .cons rv (r.pick is)
theorem Ev.cutStep {c : Cx} {e lo st : Expr} {p pos : Pos} {xs : List F} {a k : Int} (h1 : Ev c e (.list xs)) (h2 : Part c (some lo) (some a)) (h3 : Part c (some st) (some k)) (hk : k ≠ 0) (hs : xs.length ≤ 1000)
    (ht : ∀ o r, letTemporaryGo e o r = pure () := by intro _ _; rfl) : Ev c (.Subscript e (.Slice (some lo) none (some st) p) pos) (.list (stepL xs (some a) (some k))) :=
  Ev.mk fun ok s Q inv h => wpAny_Subscript_Slice_step (T := "list") list_getitem_lookup (h1 ok s _ inv fun v1 s1 i1 u1 r1 _ => wpAny_Slice (h2 ok s1 _ i1 fun v2 s2 i2 u2 e2 => by
    refine Part.none ok s2 _ i2 fun v2' s2' i2' u2' e2' => ?_
    refine h3 ok s2' _ i2' fun v3 s3 i3 u3 e3 => ?_
    have u := ((u1.trans u2).trans u2').trans u3
    obtain ⟨l, vs, n, rfl, ho, hl, q⟩ := list_is (((r1.up u2).up u2').up u3)
    refine ⟨(hl.push _).typeIs, wpAny_getItem_list_slice (hl.push _) (Heap.IsSliceOf.new ..) (isPart e2) (isPart e2') (isPart e3) (by simpa using hk) ?_ (by rw [sizeLine_eq]; simp [q.length]; omega)⟩
    have kk : ∀ b o, s3.heap.get? b = some o → ((s3.heap.push { cls := .type "slice", data := .fields #[partValue v2, partValue v2', partValue v3] }).push { cls := .type "list", data := .seq (slicePick vs.toArray (some a) none (some k)) }).get? b = some o := fun _ _ e => Heap.get?_push_of_some _ (Heap.get?_push_of_some _ e)
    refine h _ _ (i3.keeps0 ok kk) (u.trans (Up.of kk)) ?_ trivial
    have e4 : slicePick vs.toArray (some a) none (some k) = (stepL vs (some a) (some k)).toArray := by
      unfold slicePick stepL
      simp
    rw [e4]
    have := Rep.newList (w := c.w) (s := { s3 with heap := s3.heap.push { cls := .type "slice", data := .fields #[partValue v2, partValue v2', partValue v3] } }) (vs := stepL vs (some a) (some k)) (xs := stepL xs (some a) (some k)) (by
      have e5 := q.pick (sliceRange (sliceBounds (some a) none (some k) xs.length).1 (sliceBounds (some a) none (some k) xs.length).2.1 (sliceBounds (some a) none (some k) xs.length).2.2)
      unfold stepL
      rw [q.length]
      exact e5.keepT (.of fun _ _ e => Heap.get?_push_of_some _ e))
    exact this)) ht

/-- sep.join(text) -/
theorem CallR2.joinT {c : Cx} {sep x : List Nat} (hs : ((x.map fun k => [k]).map fun l => l.length + sep.length).sum ≤ 1000000) : CallR2 c (.builtin "str.join") (.f (.str sep)) (.f (.str x)) (.f (.str (joinL sep (x.map fun k => [k])))) := fun ok s v u Q inv r1 r2 h => by
  cases r1; cases r2
  have e : PyProof.Rows.signs ⟨x.toArray⟩ = (x.map fun k => [k]).map fun l => ⟨l.toArray⟩ := by
    simp [PyProof.Rows.signs]
  refine PySem.SC.joinStr ok.handled (by rw [e]; exact join_ok sep _ hs) fun h' k t' kk => ?_
  rw [e, join_is]
  exact h _ _ (inv.keeps0 ok kk) (Up.of kk) (.str _ _) trivial
end Mine
end

section
open PySem PySem.W PyProof.Rows PySem.Calls
set_option maxHeartbeats 4000000
namespace Mine

structure LawTop (K : Frag) : Prop where
  gr : gval K "range" = some (.type "range")
  glen : gval K "len" = some (.builtin "len")
  gsum : gval K "sum" = some (.builtin "sum")
  gzip : gval K "zip" = some (.type "zip")
  gstr : gval K "str" = some (.type "str")
  gquote : gval K "quotedata" = some (.ref 55)
  quote : ∃ pm cd doc, FnOk K 55 (fdOf (stAt 6) "quotedata" pm cd doc) (bodyS (stAt 6))
  ghtml : gval K "_escape_attrib_html" = some (.ref 158)
  html : ∃ pm cd doc, FnOk K 158 (fdOf (stAt 13) "_escape_attrib_html" pm cd doc) (bodyS (stAt 13))
  gcdata : gval K "_escape_cdata" = some (.ref 151)
  cdata : ∃ pm cd doc, FnOk K 151 (fdOf (stAt 12) "_escape_cdata" pm cd doc) (bodyS (stAt 12))
  ggrown : gval K "_law_grown" = some (.ref 165)
  grown : ∃ pm cd doc, FnOk K 165 (fdOf (stAt 15) "_law_grown" pm cd doc) (bodyS (stAt 15))
  gmended : gval K "_law_mended" = some (.ref 170)
  mended : ∃ pm cd doc, FnOk K 170 (fdOf (stAt 16) "_law_mended" pm cd doc) (bodyS (stAt 16))
  re : ReTop K
  pile : PileTop K
  meth : MethTop K
  gen : GenTop2 K
  new : NewTop K
  init : InitTop K

abbrev lBody : List Stmt := bodyS (stAt 17)
abbrev lFd (pm cd doc : Value) : FuncData := fdOf (stAt 17) "law" pm cd doc

def seedsL : List Int := [1, 2, 5, 7, 4, 8]
def partL (script : List Int) (k : Nat) : List Int := (stepL script (some (k : Int)) (some 6)).map fun x => x.fmod (10 ^ 6)
def numK (script : List Int) (k : Nat) : Int := seedsL.getD k 0 + (partL script k).sum
def numL (script : List Int) : List Int := (List.range 6).map (numK script)

theorem stepL_map {α β : Type} (f : α → β) (xs : List α) (a b : Option Int) : stepL (xs.map f) a b = (stepL xs a b).map f := by
  unfold stepL
  rw [List.length_map]
  generalize sliceRange _ _ _ = is
  induction is with
  | nil => rfl
  | cons i r ih =>
    cases h : xs[i]? with
    | none => rw [List.filterMap_cons_none (by simp [h]), List.filterMap_cons_none h, ih]
    | some y => rw [List.filterMap_cons_some (b := f y) (by simp [h]), List.filterMap_cons_some h, ih, List.map_cons]
theorem stepL_len {α : Type} (xs : List α) (a b : Option Int) : (stepL xs a b).length ≤ xs.length := by
  have h := slicePick_size_le (xs.map fun _ => Value.none).toArray a none b
  have e : slicePick (xs.map fun _ => Value.none).toArray a none b = (stepL (xs.map fun _ => Value.none) a b).toArray := by
    unfold slicePick stepL
    simp
  rw [e, stepL_map] at h
  simpa using h
def modF (b : Int) : F → F
  | .int i => .int (i.fmod b)
  | x => x

section
variable {w : World} {K : Frag} {k : Nat} {pm cd doc : Value} {script : List Int}
theorem law_numbers {c : Cx} (T : LawTop c.K) (hc : ∃ A L B, c = fnCx w K k A (lFd pm cd doc) 175 L B true [("seeds", .list (seedsL.map F.int)), ("script", .list (script.map F.int))]) (hs : script.length ≤ 63) :
    S1 c (nthS lBody 1) (.next [("numbers", .list ((numL script).map F.int)), ("seeds", .list (seedsL.map F.int)), ("script", .list (script.map F.int))]) := by
  obtain ⟨A, L, B, rfl⟩ := hc
  have key : ((rngF 6).filter (pI fun _ => true)).map (gI fun k => F.int (numK script k)) = (numL script).map F.int := by
    rw [rngF_comp, numL, List.map_map]
    congr 1
  refine S1.assignComp (pI fun _ => true) (gI fun k => F.int (numK script k)) (It.range (n := 6) (Ev.glob rfl T.gr) Ev.cint (by decide)) (fun o ⟨m, fs, hc, _⟩ => .inl (by rw [hc]; nofun)) (by rw [rngF_len]; decide) rfl (by decide) rfl (by decide)
    (.cons (y := "seeds") rfl rfl rfl rfl rfl rfl (.cons (y := "script") rfl rfl rfl rfl rfl rfl .nil)) ?_ rfl (.inl rfl) (by rw [key]; exact SetV.add (by rfl)) rfl (by intro _; rfl)
  intro y hy
  obtain ⟨i, hi⟩ := List.getElem?_of_mem hy
  obtain ⟨rfl, hi'⟩ := rngF_get hi
  refine ⟨_, .name, fun q hq => by simp at hq; subst hq; rfl, fun C B' => .inl ⟨rfl, rfl⟩, fun _ C B' => ?_⟩
  have hsd : seedsL[((i : Nat) : Int).toNat]? = some (seedsL.getD i 0) := by
    have : i < seedsL.length := hi'
    simp [List.getElem?_eq_getElem this, List.getD]
  refine Ev.bin (Ev.sub (x := .int (seedsL.getD i 0)) (Ev.name rfl) (Ev.name rfl) (SubR.list (by omega) (by omega) (by rw [List.getElem?_map, hsd]; rfl))) (Ev.call1 (Ev.glob rfl T.gsum) (.inl ⟨_, rfl⟩) ?_ (CallR1.sumL (xs := partL script i))) BinR.addI
  have key2 : ((stepL (script.map F.int) (some (i : Int)) (some 6)).filter (fun _ => true)).map (modF (10 ^ 6)) = (partL script i).map F.int := by
    rw [stepL_map, partL, List.filter_eq_self.mpr (fun _ _ => rfl), List.map_map, List.map_map]
    rfl
  rw [← key2]
  refine Ev.comp (kc := kcL) (fun _ => true) (modF (10 ^ 6)) (It.list (Ev.cutStep (Ev.name rfl) (Part.some (Ev.name rfl)) (Part.some Ev.cint) (by decide) (by rw [List.length_map]; omega))) ?_ ?_ rfl (by decide) rfl (by decide) .nil ?_
  · rintro o (⟨n, fs, hc, _⟩ | ⟨hc, _⟩)
    · exact .inl (by rw [hc]; nofun)
    · exact .inl (by rw [hc]; nofun)
  · have := stepL_len (script.map F.int) (some (i : Int)) (some 6)
    rw [List.length_map] at this
    omega
  · intro z hz
    rw [stepL_map] at hz
    obtain ⟨v, _, rfl⟩ := List.mem_map.mp hz
    refine ⟨_, .name, fun q hq => by simp at hq; subst hq; rfl, fun C B' => .inl ⟨rfl, rfl⟩, fun _ C B' => ?_⟩
    exact Ev.bin (Ev.name rfl) (Ev.bin Ev.cint Ev.cint (BinR.powI (by decide) (by decide))) (BinR.modI (by decide))
end
end Mine
end

section
open PySem PySem.W PyProof.Rows PySem.Calls
set_option maxHeartbeats 4000000
namespace Mine

theorem wp_swapped {w : World} {A : Around} {env : Env} {s : Shared} {a b : Str} {v : Value} {d e : F} {m : Str → Option Value} {Q : Unit → Shared → Prop} (hA : A.handled = none) (hk : env.scope.kind = .function)
    (hne : a ≠ b) (hla : env.kindOf a = some .local) (hlb : env.kindOf b = some .local) (n : s.heap.Ns env.locals m) (r : RepF s.heap v (.tup [d, e]))
    (h : ∀ h' tk m', h'.Ns env.locals m' → (∀ p ∈ [(b, e), (a, d)], ∃ v, m' p.1 = some v ∧ RepF h' v p.2) → (∀ y, [(b, e), (a, d)].lookup y = none → m' y = m y) → (∀ b o, b ≠ env.locals → s.heap.get? b = some o → h'.get? b = some o) → KeepD env.locals s.heap h' →
      Q () { s with heap := h', toks := tk }) : wpAny (model PG w) A (unpackItems v 2 none) (fun items s₂ => wpAny (model PG w) A (assignInOrder ([a, b].reverse.map fun n => bindName env n) items.reverse) Q NoE s₂) NoE s := by
  have hp : (env.scope.kind == .class || (env.scope.kind == .module && env.locals != env.globals)) = false := by rw [hk]; rfl
  cases r with
  | tup ht q =>
    rename_i l vs
    cases q with
    | cons ra q =>
      rename_i va vs
      cases q with
      | cons rb q =>
        rename_i vb vs
        cases q
        have ht' : s.heap.IsTuple l [va, vb].toArray := by
          obtain ⟨o, ho, hc, n', hd⟩ := ht
          exact ⟨o, ho, hc, n', hd⟩
        refine wpAny_unpackItems_tuple (items := [va, vb].toArray) hA ht' fun h₁ hx => ?_
        have nlt : env.locals ≠ s.heap.objs.size := Nat.ne_of_lt n.lt
        have k1 : KeepD env.locals s.heap h₁ := fun b' o e _ => hx b' o (Nat.ne_of_lt (Heap.lt_size e)) e
        have n1 := n.extBut hx nlt
        show wpAny _ _ (assignInOrder [bindName env b, bindName env a] [vb, va]) _ _ _
        refine wpAny_assignInOrder_more (wpAny_bindName (wpAny_storeName_local hlb n1 (fun h₂ hn₂ hs₂ => ?_) hp))
        have k2 := KeepD.ns n1 hs₂
        refine wpAny_assignInOrder_more (wpAny_bindName (wpAny_storeName_local hla hn₂ (fun h₃ hn₃ hs₃ => ?_) hp))
        have k3 := KeepD.ns hn₂ hs₃
        have kk : KeepD env.locals s.heap h₃ := fun b' o e1 e2 => k3 b' o (k2 b' o (k1 b' o e1 e2) e2) e2
        refine wpAny_assignInOrder_none (h h₃ _ _ hn₃ (fun q hq => ?_) (fun z hz => ?_) (fun b' o hb e' => hs₃.extBut b' o hb (hs₂.extBut b' o hb (hx b' o (Nat.ne_of_lt (Heap.lt_size e')) e'))) kk)
        · simp at hq
          rcases hq with rfl | rfl
          · exact ⟨vb, by simp [hne.symm], rb.keepT kk.keepT⟩
          · exact ⟨va, by simp, ra.keepT kk.keepT⟩
        · have h1 : z ≠ b := by rintro rfl; simp at hz
          have h2 : z ≠ a := by
            rintro rfl
            simp [h1] at hz
          simp [h1, h2]
theorem S1.assignPair {c : Cx} {a b : Str} {pa pb tp pos : Pos} {kt : Nat} {e : Expr} {x y : F} {vs' : List (Str × D)} (hab : a ≠ b) (h1 : Ev c e (.f (.tup [x, y]))) (ha : c.env.scope.names.lookup a = some .local) (hb : c.env.scope.names.lookup b = some .local)
    (hv' : ∀ p ∈ vs', p = (a, D.f x) ∨ p = (b, D.f y) ∨ (p ∈ c.vars ∧ p.1 ≠ a ∧ p.1 ≠ b))
    (hs : swapsWithSole [.Tuple [.Name a pa, .Name b pb] kt tp] e pos.line c.env = pure false) (hw : swappedStores [.Tuple [.Name a pa, .Name b pb] kt tp] e c.env = pure (some [a, b])) :
    S1 c (.Assign [.Tuple [.Name a pa, .Name b pb] kt tp] e pos) (.next vs') := S1.of_mk fun ok s Q inv h => by
  refine Assign_Tuple_swapped (names := [a, b]) (h1 ok s _ inv fun v s1 i1 u1 r1 _ => ?_) hs hw
  obtain ⟨m, n⟩ := i1.ns
  refine wp_swapped ok.handled ok.kind hab ha hb n r1 fun h' tk m' n' hm' hrest hk kd => ?_
  have nb : ∀ b' o, kept c.kl o → s1.heap.get? b' = some o → b' ≠ c.env.locals := by
    rintro b' o ke e rfl
    obtain ⟨o', es, ep, ho', hd', _⟩ := n
    rw [e] at ho'; cases ho'
    exact ke.notDict hd'
  have sp : ∀ b' o, (∃ o', c.B.heap.get? b' = some o') → s1.heap.get? b' = some o → h'.get? b' = some o := fun b' o ⟨o', e'⟩ e => hk b' o (by rintro rfl; rw [ok.new] at e'; cases e') e
  refine h _ ⟨ok.wb.step i1.wd sp, i1.up.step sp, ⟨m', n'⟩, fun p hp => ?_, fun p hp => ?_⟩ ((u1.kp _).trans fun b' o e ke => hk b' o (nb b' o ke e) e)
  · rcases hv' p hp with rfl | rfl | ⟨hm, hne1, hne2⟩
    · obtain ⟨v0, e0, r0⟩ := hm' (a, x) (by simp)
      exact ⟨v0, .inl ⟨ha, m', n', e0⟩, r0, trivial⟩
    · obtain ⟨v0, e0, r0⟩ := hm' (b, y) (by simp)
      exact ⟨v0, .inl ⟨hb, m', n', e0⟩, r0, trivial⟩
    · obtain ⟨v0, b0, r0, na0⟩ := i1.vars p hm
      refine ⟨v0, ?_, r0.keepD kd na0, na0⟩
      rcases b0 with ⟨q, m1, ns1, e1⟩ | ⟨q, kd1, c1, e1, hc1⟩
      · cases ns_same n ns1
        exact .inl ⟨q, m', n', by rw [hrest p.1 (by have h1 : (p.1 == b) = false := by simpa using hne2
                                                    have h2 : (p.1 == a) = false := by simpa using hne1
                                                    simp [List.lookup, h1, h2])]; exact e1⟩
      · obtain ⟨o1, ho1, hd1⟩ := hc1
        refine .inr ⟨q, kd1, c1, e1, o1, hk _ _ ?_ ho1, hd1⟩
        rintro rfl
        obtain ⟨o', es, ep, ho', hd', _⟩ := n
        rw [ho1] at ho'; cases ho'; rw [hd1] at hd'; cases hd'
  · obtain ⟨v1, o1, ho1, hd1⟩ := i1.cel p hp
    refine ⟨v1, o1, hk _ _ ?_ ho1, hd1⟩
    intro e
    obtain ⟨o', es, ep, ho', hd', _⟩ := n
    rw [e] at ho1
    rw [ho1] at ho'; cases ho'; rw [hd1] at hd'; cases hd'

def markN (n : Int) : Nat := if (n.fmod 2 != 0) = true then 46 else 38
def tailsL : List (List Nat) := [[], [60], [34], [62], [46], [59], [38]]
def tailK (t : Int) : List Nat := tailsL.getD (t.fmod 7).toNat []
def htmlK (t : Int) : Bool := (t.fdiv 7).fmod 2 == 1
def wfK (t : Int) : Bool := (t.fdiv 14).fmod 2 == 1
def endsT : List (List Nat) := [[10], [13], [13, 10]]
def endN (n : Int) : List Nat := endsT.getD ((n.fdiv 2).fmod 3).toNat []

theorem joinL_one {α : Type} (f : α → Nat) : ∀ xs : List α, joinL [] (xs.map fun n => [f n]) = xs.map f
  | [] => rfl
  | [_] => rfl
  | x :: y :: r => by
    have ih := joinL_one f (y :: r)
    rw [List.map_cons, List.map_cons] at ih
    rw [List.map_cons, List.map_cons]
    show [f x] ++ [] ++ joinL [] ([f y] :: r.map fun n => [f n]) = _
    rw [ih]; rfl
theorem sum_const {α : Type} (xs : List α) (f : α → Nat) (n : Nat) (h : ∀ x ∈ xs, f x ≤ n) : (xs.map f).sum ≤ xs.length * n := by
  induction xs with
  | nil => simp
  | cons x r ih =>
    have := ih fun y hy => h y (.tail _ hy)
    have h1 := h x (.head _)
    simp only [List.map_cons, List.sum_cons, List.length_cons, Nat.succ_mul]
    omega

theorem kcL_notTab (o : Obj) : kcL o → NotTab o := by
  rintro (⟨n, fs, hc, _⟩ | ⟨hc, _⟩)
  · exact .inl (by rw [hc]; nofun)
  · exact .inl (by rw [hc]; nofun)
theorem isIt_notTab (o : Obj) : isIt o → NotTab o := by
  rintro ⟨n, fs, hc, _⟩
  exact .inl (by rw [hc]; nofun)

/-- a comprehension over a list of ints; over a text -/
def gInt (g : Int → F) : F → F
  | .int i => g i
  | x => x
def gChr (g : Nat → F) : F → F
  | .str [c] => g c
  | x => x
theorem map_gInt (g : Int → F) (nums : List Int) : ((nums.map F.int).filter fun _ => true).map (gInt g) = nums.map g := by
  rw [List.filter_eq_self.mpr (fun _ _ => rfl), List.map_map]; rfl
theorem map_gChr (g : Nat → F) (l : List Nat) : ((l.map fun k => F.str [k]).filter fun _ => true).map (gChr g) = l.map g := by
  rw [List.filter_eq_self.mpr (fun _ _ => rfl), List.map_map]; rfl

section
variable {w : World} {K : Frag} {k : Nat} {A : Around} {L : Addr} {B : Shared} {pm cd doc : Value}
abbrev lCx (w : World) (K : Frag) (k : Nat) (A : Around) (L : Addr) (B : Shared) (pm cd doc : Value) (vs : List (Str × D)) : Cx := fnCx w K k A (lFd pm cd doc) 175 L B true vs

theorem law_seeds {script : List Int} : S1 (lCx w K k A L B pm cd doc [("script", .list (script.map F.int))]) (nthS lBody 0) (.next [("seeds", .list (seedsL.map F.int)), ("script", .list (script.map F.int))]) :=
  S1.assign (d := .list (seedsL.map F.int)) (Ev.list (Evs.cons Ev.cint (Evs.cons Ev.cint (Evs.cons Ev.cint (Evs.cons Ev.cint (Evs.cons Ev.cint (Evs.cons Ev.cint Evs.nil)))))) (by decide)) rfl (.inr ⟨rfl, rfl, rfl⟩) (SetV.add (by rfl)) rfl
theorem law_total (T : LawTop K) {nums : List Int} : S1 (lCx w K k A L B pm cd doc [("numbers", .list (nums.map F.int))]) (nthS lBody 2) (.next [("total", dI nums.sum), ("numbers", .list (nums.map F.int))]) :=
  S1.assign (d := dI nums.sum) (Ev.call1 (Ev.glob rfl T.gsum) (.inl ⟨_, rfl⟩) (Ev.name rfl) CallR1.sumL) rfl (.inl rfl) (SetV.add (by rfl)) rfl
theorem law_marks {nums : List Int} {t : Int} (hn : nums.length ≤ 1000) : S1 (lCx w K k A L B pm cd doc [("total", dI t), ("numbers", .list (nums.map F.int))]) (nthS lBody 3) (.next [("marks", dS (nums.map markN)), ("total", dI t), ("numbers", .list (nums.map F.int))]) := by
  refine S1.assign (d := dS (nums.map markN)) ?_ rfl (.inl rfl) (SetV.add (by rfl)) rfl
  rw [← joinL_one]
  refine Ev.methS (x := []) (Ev.cstr rfl) PySem.F.slot_str_join rfl ?_ (CallR2.join (sep := []) (ls := nums.map fun n => [markN n]) ?_)
  · rw [List.map_map]
    have e := map_gInt (fun n => F.str [markN n]) nums
    rw [show (F.str ∘ fun n => [markN n]) = fun n => F.str [markN n] from rfl, ← e]
    refine Ev.comp (fun _ => true) (gInt fun n => F.str [markN n]) (It.list (Ev.name rfl)) kcL_notTab (by rw [List.length_map]; exact hn) rfl (by decide) rfl (by decide) .nil ?_
    intro z hz
    obtain ⟨v, _, rfl⟩ := List.mem_map.mp hz
    refine ⟨_, .name, fun q hq => by simp at hq; subst hq; rfl, fun C B' => .inl ⟨rfl, rfl⟩, fun _ C B' => ?_⟩
    show Ev _ _ (dS [markN v])
    have e2 : [markN v] = if (v.fmod 2 != 0) = true then [46] else [38] := by unfold markN; split <;> rfl
    rw [e2]
    exact Ev.iteS (Ts.val (Ev.bin (Ev.name rfl) Ev.cint (BinR.modI (by decide))) TruR.int) (Ev.cstr (l := [46]) rfl) (Ev.cstr (l := [38]) rfl)
  · rw [List.map_map]
    have := sum_const nums ((fun l : List Nat => l.length + ([] : List Nat).length) ∘ fun n => [markN n]) 1 (by intro _ _; simp)
    omega
theorem law_tail {nums : List Int} {t : Int} {marks : List Nat} : S1 (lCx w K k A L B pm cd doc [("marks", dS marks), ("total", dI t), ("numbers", .list (nums.map F.int))]) (nthS lBody 4) (.next [("tail", dS (tailK t)), ("marks", dS marks), ("total", dI t), ("numbers", .list (nums.map F.int))]) := by
  refine S1.assign (d := dS (tailK t)) ?_ rfl (.inr ⟨rfl, rfl, rfl⟩) (SetV.add (by rfl)) rfl
  have h0 : 0 ≤ t.fmod 7 := Int.fmod_nonneg_of_pos t (by decide)
  have h1 : t.fmod 7 < 7 := Int.fmod_lt_of_pos t (by decide)
  have hlt : (t.fmod 7).toNat < tailsL.length := by simp [tailsL]; omega
  refine Ev.sub (x := .str (tailK t)) (d := .list (tailsL.map F.str)) ?_ (Ev.bin (Ev.name rfl) Ev.cint (BinR.modI (by decide))) (SubR.list h0 (by omega) (by rw [List.getElem?_map, List.getElem?_eq_getElem hlt]; simp [tailK, List.getD, List.getElem?_eq_getElem hlt]))
  exact Ev.list (xs := tailsL.map F.str) (Evs.cons (Ev.cstr rfl) (Evs.cons (Ev.cstr rfl) (Evs.cons (Ev.cstr rfl) (Evs.cons (Ev.cstr rfl) (Evs.cons (Ev.cstr rfl) (Evs.cons (Ev.cstr rfl) (Evs.cons (Ev.cstr rfl) Evs.nil))))))) (by decide)
end
end Mine
end

section
open PySem PySem.W PyProof.Rows PySem.Calls
set_option maxHeartbeats 4000000
namespace Mine

theorem Ev.cmpV {c : Cx} {l r : Expr} {op : CmpOp} {pos : Pos} {d1 d2 : D} {b b' : Bool} (h1 : Ev c l d1) (h2 : Ev c r d2) (h3 : CmpR c op d1 d2 b) (e : b = b') (hm : behindInMarks op r = false := by with_unfolding_all rfl) : Ev c (.Compare l [op] [r] pos) (.f (.bool b')) := e ▸ Ev.cmp h1 h2 h3 hm

section
variable {w : World} {K : Frag} {k : Nat} {A : Around} {L : Addr} {B : Shared} {pm cd doc : Value}
theorem law_pair {nums : List Int} {t : Int} {marks tail : List Nat} : S1 (lCx w K k A L B pm cd doc [("tail", dS tail), ("marks", dS marks), ("total", dI t), ("numbers", .list (nums.map F.int))]) (nthS lBody 5)
    (.next [("html", dB (htmlK t)), ("written_first", dB (wfK t)), ("tail", dS tail), ("marks", dS marks), ("numbers", .list (nums.map F.int))]) := by
  refine S1.assignPair (x := .bool (htmlK t)) (y := .bool (wfK t)) (by decide) (Ev.tuple (Evs.cons ?_ (Evs.cons ?_ Evs.nil)) (by simp)) rfl rfl ?_ rfl rfl
  · exact Ev.cmpV (Ev.bin (Ev.bin (Ev.name rfl) Ev.cint (BinR.divI (by decide) (by decide))) Ev.cint (BinR.modI (by decide))) Ev.cint CmpR.eqI rfl
  · exact Ev.cmpV (Ev.bin (Ev.bin (Ev.name rfl) Ev.cint (BinR.divI (by decide) (by decide))) Ev.cint (BinR.modI (by decide))) Ev.cint CmpR.eqI rfl
  · intro p hp
    simp only [List.mem_cons, List.not_mem_nil, or_false] at hp
    rcases hp with rfl | rfl | rfl | rfl | rfl
    · exact .inl rfl
    · exact .inr (.inl rfl)
    · exact .inr (.inr ⟨by simp, by dsimp only; decide, by dsimp only; decide⟩)
    · exact .inr (.inr ⟨by simp, by dsimp only; decide, by dsimp only; decide⟩)
    · exact .inr (.inr ⟨by simp, by dsimp only; decide, by dsimp only; decide⟩)
theorem law_ends {nums : List Int} {h wf : Bool} {marks tail : List Nat} (hn : nums.length ≤ 1000) : S1 (lCx w K k A L B pm cd doc [("html", dB h), ("written_first", dB wf), ("tail", dS tail), ("marks", dS marks), ("numbers", .list (nums.map F.int))]) (nthS lBody 6)
    (.next [("ends", .list ((nums.map endN).map F.str)), ("html", dB h), ("written_first", dB wf), ("tail", dS tail), ("marks", dS marks)]) := by
  have key : ((nums.map F.int).filter fun _ => true).map (gInt fun n => F.str (endN n)) = (nums.map endN).map F.str := by
    rw [map_gInt, List.map_map]; rfl
  refine S1.assignComp (fun _ => true) (gInt fun n => F.str (endN n)) (It.list (Ev.name rfl)) kcL_notTab (by rw [List.length_map]; exact hn) rfl (by decide) rfl (by decide) .nil ?_ rfl (.inl rfl) ?_ rfl (by intro _; rfl)
  · intro z hz
    obtain ⟨v, _, rfl⟩ := List.mem_map.mp hz
    refine ⟨_, .name, fun q hq => by simp at hq; subst hq; rfl, fun C B' => .inl ⟨rfl, rfl⟩, fun _ C B' => ?_⟩
    have h0 : 0 ≤ (v.fdiv 2).fmod 3 := Int.fmod_nonneg_of_pos _ (by decide)
    have h1 : (v.fdiv 2).fmod 3 < 3 := Int.fmod_lt_of_pos _ (by decide)
    have hlt : ((v.fdiv 2).fmod 3).toNat < endsT.length := by simp [endsT]; omega
    refine Ev.sub (x := .str (endN v)) (d := .list (endsT.map F.str)) ?_ (Ev.bin (Ev.bin (Ev.name rfl) Ev.cint (BinR.divI (by decide) (by decide))) Ev.cint (BinR.modI (by decide))) (SubR.list h0 (by omega) (by rw [List.getElem?_map, List.getElem?_eq_getElem hlt]; simp [endN, List.getD, List.getElem?_eq_getElem hlt]))
    exact Ev.list (xs := endsT.map F.str) (Evs.cons (Ev.cstr rfl) (Evs.cons (Ev.cstr rfl) (Evs.cons (Ev.cstr rfl) Evs.nil))) (by decide)
  · rw [key]
    intro p hp
    simp only [List.mem_cons, List.not_mem_nil, or_false] at hp
    rcases hp with rfl | rfl | rfl | rfl | rfl
    · exact .inl rfl
    all_goals exact .inr ⟨by simp, by dsimp only; decide⟩

/-- all at once -/
def onceL (marks tail : List Nat) (ends : List (List Nat)) : List Nat := joinL [] ((marks.zip (ends.take 5 ++ [[]])).map fun p => ([p.1] ++ tail) ++ p.2)
def gZip (tail : List Nat) : F → F
  | .tup [.str m, .str e] => .str ((m ++ tail) ++ e)
  | x => x
theorem zipF_map (tail : List Nat) : ∀ (x : List Nat) (ys : List (List Nat)), ((zipF x (ys.map F.str)).filter fun _ => true).map (gZip tail) = ((x.zip ys).map fun p => ([p.1] ++ tail) ++ p.2).map F.str
  | [], _ => by simp [zipF]
  | _ :: _, [] => by simp [zipF]
  | c :: r, y :: ys => by
    have ih := zipF_map tail r ys
    rw [List.filter_eq_self.mpr (fun _ _ => rfl)] at ih ⊢
    show gZip tail _ :: ((zipF r (ys.map F.str)).map (gZip tail)) = _
    rw [ih]; rfl
theorem law_once {ends : List (List Nat)} {h wf : Bool} {marks tail : List Nat} (T : LawTop K) (hm : marks.length = 6) (ha : marks.all (· < 128) = true) (he : ends.length = 6) (he2 : ∀ e ∈ ends, e.length ≤ 2) (ht : tail.length ≤ 1) :
    S1 (lCx w K k A L B pm cd doc [("ends", .list (ends.map F.str)), ("html", dB h), ("written_first", dB wf), ("tail", dS tail), ("marks", dS marks)]) (nthS lBody 7)
    (.next [("at_once", dS (onceL marks tail ends)), ("ends", .list (ends.map F.str)), ("html", dB h), ("written_first", dB wf), ("tail", dS tail), ("marks", dS marks)]) := by
  refine S1.assign (d := dS (onceL marks tail ends)) ?_ rfl (.inl rfl) (SetV.add (by rfl)) rfl
  have hcut : sliceL ends none (some 5) = ends.take 5 := by
    unfold sliceL cut
    rw [he]; simp
  have hys : sliceL (ends.map F.str) none (some 5) ++ [F.str []] = (ends.take 5 ++ [[]]).map F.str := by
    have : sliceL (ends.map F.str) none (some 5) = (ends.take 5).map F.str := by
      unfold sliceL cut
      rw [List.length_map, he]; simp [List.map_take]
    rw [this]; simp
  have hlen : marks.length = ((ends.take 5 ++ [[]]).map F.str).length := by simp [hm, he]
  refine Ev.methS (x := []) (Ev.cstr rfl) PySem.F.slot_str_join rfl ?_ (CallR2.join (sep := []) (ls := (marks.zip (ends.take 5 ++ [[]])).map fun p => ([p.1] ++ tail) ++ p.2) ?_)
  · rw [← zipF_map]
    refine Ev.compZ (fun _ => true) (gZip tail) (ItZ.zip (Ev.glob rfl T.gzip) (Ev.name rfl) ?_ ha hlen ?_) (fun o h => h.notTab) (by rw [zipF_len hlen, hm]; decide) rfl (by decide) rfl (by decide) (.cons (y := "tail") rfl rfl rfl rfl rfl rfl .nil) ?_ ?_
    · rw [← hys]
      refine Ev.bin (Ev.cutL (Ev.name rfl) Part.none (Part.some Ev.cint) (by rw [List.length_map, he]; decide)) (Ev.list (xs := [F.str []]) (Evs.cons (Ev.cstr rfl) Evs.nil) (by decide)) (BinR.addL ?_)
      have := sliceL_len (ends.map F.str) none (some 5)
      rw [List.length_map, he] at this
      simp only [List.length_cons, List.length_nil]; omega
    · intro y hy
      obtain ⟨v, _, rfl⟩ := List.mem_map.mp hy
      rfl
    · intro y hy
      obtain ⟨i, hi⟩ := List.getElem?_of_mem hy
      obtain ⟨ch, z, _, hz, rfl⟩ := zipF_get hi
      obtain ⟨v, _, rfl⟩ := List.mem_map.mp (List.mem_of_getElem? hz)
      rfl
    · intro y hy
      obtain ⟨i, hi⟩ := List.getElem?_of_mem hy
      obtain ⟨ch, z, _, hz, rfl⟩ := zipF_get hi
      obtain ⟨v, hv, rfl⟩ := List.mem_map.mp (List.mem_of_getElem? hz)
      have hv2 : v.length ≤ 2 := by
        rcases List.mem_append.mp hv with hv | hv
        · exact he2 v (List.mem_of_mem_take hv)
        · simp at hv; subst hv; simp
      refine ⟨_, .pair (by decide), fun q hq => by simp at hq; rcases hq with rfl | rfl <;> rfl, fun C B' => .inl ⟨rfl, rfl⟩, fun _ C B' => ?_⟩
      exact Ev.bin (Ev.bin (Ev.name rfl) (Ev.name rfl) (BinR.addS (by simp only [List.length_cons, List.length_nil]; omega))) (Ev.name rfl) (BinR.addS (by simp only [List.length_append, List.length_cons, List.length_nil]; omega))
  · rw [List.map_map]
    have := sum_const (marks.zip (ends.take 5 ++ [[]])) ((fun l : List Nat => l.length + ([] : List Nat).length) ∘ fun p => ([p.1] ++ tail) ++ p.2) 10 (fun p hp => by
      have hv := (List.of_mem_zip hp).2
      have hv2 : p.2.length ≤ 2 := by
        rcases List.mem_append.mp hv with hv | hv
        · exact he2 _ (List.mem_of_mem_take hv)
        · simp at hv; rw [hv]; simp
      simp only [Function.comp, List.length_append, List.length_cons, List.length_nil]; omega)
    have hl : (marks.zip (ends.take 5 ++ [[]])).length ≤ 6 := by rw [List.length_zip]; omega
    omega
end
end Mine
end

section
open PySem PySem.W PyProof.Rows PySem.Calls
set_option maxHeartbeats 4000000
namespace Mine

def onceQ (marks tail : List Nat) : List Nat := joinL [13, 10] (marks.map fun m => (if ([m] == [46]) = true then [46, 46] else [m]) ++ tail)
def stepK (marks tail : List Nat) (ends : List (List Nat)) (html wf : Bool) (l : List Nat) (i : Nat) : List Nat :=
  let l1 := l ++ (([marks.getD i 0] ++ tail) ++ ends.getD i [])
  let l2 := if wf = true then l1 else quoteL l1
  let l3 := if html = true then escH l2 else escC l2
  if wf = true then quoteL l3 else l3
def letterK (marks tail : List Nat) (ends : List (List Nat)) (html wf : Bool) : Nat → List Nat
  | 0 => []
  | n + 1 => stepK marks tail ends html wf (letterK marks tail ends html wf n) n
def toldK (tail : List Nat) (html : Bool) (letter : List Nat) : Int := (((grownL [38, 38, 38, 38, 38, 38] tail html).length : Int) - (letter.length : Int)).fdiv 3

theorem dotq_ge : ∀ (l : List Nat) (b : Bool), l.length ≤ (dotq b l).length
  | [], _ => Nat.zero_le _
  | c :: r, b => by
    unfold dotq
    split
    · have := dotq_ge r false; simp; omega
    · have := dotq_ge r (c == 10); simp; omega
theorem crlf_ge : ∀ (l : List Nat), l.length ≤ (crlf l).length
  | [] => Nat.zero_le _
  | [c] => by unfold crlf; split <;> simp
  | c :: d :: r => by
    have h1 := crlf_ge r
    have h2 := crlf_ge (d :: r)
    unfold crlf
    split
    · simp; omega
    · split <;> simp at h2 ⊢ <;> omega
theorem quoteL_ge (l : List Nat) : l.length ≤ (quoteL l).length := Nat.le_trans (crlf_ge l) (dotq_ge _ _)
theorem quoteL_le (l : List Nat) : (quoteL l).length ≤ 4 * l.length := by
  have h1 := dotq_len (crlf l) true
  have h2 := crlf_len l
  unfold quoteL; omega
theorem grownL_len {marks tail : List Nat} {html : Bool} (ht : tail.length ≤ 1) : (grownL marks tail html).length ≤ 2000 := by
  have h1 : ∀ i ∈ List.range 6, (lineL marks tail html i).length ≤ 300 := fun i hi => by
    have l1 := rowL_len (marks.getD i 0) i
    have l2 := tailL_len (html := html) (show tail.length ≤ 100 by omega) i
    unfold lineL
    rw [List.length_append, List.length_append]
    simp only [List.length_cons, List.length_nil]; omega
  have h2 : ∀ ls : List (List Nat), (∀ l ∈ ls, l.length ≤ 300) → (joinL [] ls).length ≤ 300 * ls.length := by
    intro ls
    induction ls with
    | nil => intro _; simp [joinL]
    | cons x r ih =>
      intro h
      have hx := h x (.head _)
      have hr := ih fun y hy => h y (.tail _ hy)
      cases r with
      | nil => simp [joinL]; omega
      | cons y t =>
        have e : (joinL [] (x :: y :: t)) = x ++ [] ++ joinL [] (y :: t) := rfl
        rw [e, List.length_append, List.length_append]
        simp only [List.length_cons, List.length_nil] at hr ⊢
        omega
  have h3 := h2 ((List.range 6).map (lineL marks tail html)) fun l hl => by
    obtain ⟨i, hi, rfl⟩ := List.mem_map.mp hl
    exact h1 i hi
  rw [List.length_map, List.length_range] at h3
  unfold grownL; omega

section
variable {w : World} {K : Frag} {k : Nat} {A : Around} {L : Addr} {B : Shared} {pm cd doc : Value}
/-- calls of the program's functions -/
theorem CallR1.quote {c : Cx} (T : LawTop c.K) (hk : c.k = k + 1) {t : List Nat} (ht : t.length ≤ 20000) : CallR1 c (.ref 55) (dS t) (dS (quoteL t)) := by
  obtain ⟨pm, cd, doc, fk⟩ := T.quote
  exact CallR1.fn (kl := true) hk fk (x1 := "data") (Mine.quotedata T.re ht) (fun _ => rfl) (fun n x hx => by simp at hx; subst hx; exact .inl rfl) fun _ => trivial
theorem CallR1.escC {c : Cx} (T : LawTop c.K) (hk : c.k = k + 1) {t : List Nat} (ht : t.length ≤ 10000) : CallR1 c (.ref 151) (dS t) (dS (escC t)) := by
  obtain ⟨pm, cd, doc, fk⟩ := T.cdata
  exact CallR1.fn (kl := true) hk fk (x1 := "text") (esc_cdata ht) (fun _ => rfl) (fun n x hx => by simp at hx; subst hx; exact .inl rfl) fun _ => trivial
theorem CallR1.escH {c : Cx} (T : LawTop c.K) (hk : c.k = k + 1) {t : List Nat} (ht : t.length ≤ 10000) : CallR1 c (.ref 158) (dS t) (dS (escH t)) := by
  obtain ⟨pm, cd, doc, fk⟩ := T.html
  exact CallR1.fn (kl := true) hk fk (x1 := "text") (esc_html ht) (fun _ => rfl) (fun n x hx => by simp at hx; subst hx; exact .inl rfl) fun _ => trivial
theorem CallR3.grown {c : Cx} (T : LawTop c.K) (hk : c.k = k + 1) {marks tail : List Nat} {html : Bool} (hm : marks.length = 6) (ht : tail.length ≤ 100) : CallR3 c (.ref 165) (dS marks) (dS tail) (dB html) (dS (grownL marks tail html)) := by
  obtain ⟨pm, cd, doc, fk⟩ := T.grown
  exact CallR3.fn (kl := false) hk fk (x1 := "marks") (x2 := "tail") (x3 := "html") (Mine.grown T.gr hm ht) (fun _ _ _ => rfl) (fun n x hx => by simp at hx; rcases hx with rfl | rfl | rfl <;> exact .inl rfl) (by decide) (by decide) (by decide) fun _ => trivial
theorem CallR2.mended {c : Cx} (T : LawTop c.K) (hk : c.k = k + 1) {marks : List Nat} {told : Int} (hm : marks.length = 5 ∨ marks.length = 6 ∨ marks.length = 7) : CallR2 c (.ref 170) (dS marks) (dI told) (.list ((mendedL marks told).map F.str)) := by
  obtain ⟨pm, cd, doc, fk⟩ := T.mended
  exact CallR2.fn (kl := true) hk fk (x1 := "marks") (x2 := "told") (Mine.mended T.gr T.glen T.gsum hm) (fun _ _ => rfl) (fun n x hx => by
    simp at hx
    rcases hx with rfl | rfl
    · exact .inr ⟨rfl, rfl, rfl⟩
    · exact .inl rfl) (by decide) fun _ => trivial
theorem LawTop.cal {c : Cx} (T : LawTop c.K) : Cal c.K (.ref 55) ∧ Cal c.K (.ref 151) ∧ Cal c.K (.ref 158) ∧ Cal c.K (.ref 165) ∧ Cal c.K (.ref 170) :=
  ⟨let ⟨_, _, _, f⟩ := T.quote; f.cal, let ⟨_, _, _, f⟩ := T.cdata; f.cal, let ⟨_, _, _, f⟩ := T.html; f.cal, let ⟨_, _, _, f⟩ := T.grown; f.cal, let ⟨_, _, _, f⟩ := T.mended; f.cal⟩

theorem law_sent {ends : List (List Nat)} {h wf : Bool} {marks tail at1 : List Nat} (T : LawTop K) (hm : marks.length = 6) (ht : tail.length ≤ 1) (h1 : at1.length ≤ 1000) (P1 : quoteL at1 = onceQ marks tail) :
    S1 (lCx w K (k + 2) A L B pm cd doc [("at_once", dS at1), ("ends", .list (ends.map F.str)), ("html", dB h), ("written_first", dB wf), ("tail", dS tail), ("marks", dS marks)]) (nthS lBody 8)
    (.next [("at_once", dS at1), ("ends", .list (ends.map F.str)), ("html", dB h), ("written_first", dB wf), ("tail", dS tail), ("marks", dS marks)]) := by
  have Tc : LawTop (lCx w K (k + 2) A L B pm cd doc [("at_once", dS at1), ("ends", .list (ends.map F.str)), ("html", dB h), ("written_first", dB wf), ("tail", dS tail), ("marks", dS marks)]).K := T
  refine S1.ite (b := false) (Ts.cast (Ts.cmp (Ev.call1 (Ev.glob rfl T.gquote) Tc.cal.1 (Ev.name rfl) (CallR1.quote Tc rfl (show at1.length ≤ 20000 by omega))) (Ev.methS (x := [13, 10]) (Ev.cstr rfl) PySem.F.slot_str_join rfl ?_ (CallR2.join (sep := [13, 10]) (ls := marks.map fun m => (if ([m] == [46]) = true then [46, 46] else [m]) ++ tail) ?_)) CmpR.neS) ?_) SX.nil
  · rw [List.map_map]
    have e := map_gChr (fun m => F.str ((if ([m] == [46]) = true then [46, 46] else [m]) ++ tail)) marks
    rw [show (F.str ∘ fun m => (if ([m] == [46]) = true then [46, 46] else [m]) ++ tail) = fun m => F.str ((if ([m] == [46]) = true then [46, 46] else [m]) ++ tail) from rfl, ← e]
    refine Ev.comp (fun _ => true) (gChr fun m => F.str ((if ([m] == [46]) = true then [46, 46] else [m]) ++ tail)) (It.str (Ev.name rfl)) isIt_notTab (by rw [List.length_map, hm]; decide) rfl (by decide) rfl (by decide) (.cons (y := "tail") rfl rfl rfl rfl rfl rfl .nil) ?_
    intro z hz
    obtain ⟨v, _, rfl⟩ := List.mem_map.mp hz
    refine ⟨_, .name, fun q hq => by simp at hq; subst hq; rfl, fun C B' => .inl ⟨rfl, rfl⟩, fun _ C B' => ?_⟩
    show Ev _ _ (dS ((if ([v] == [46]) = true then [46, 46] else [v]) ++ tail))
    exact Ev.bin (Ev.iteS (Ts.cmp (Ev.name rfl) (Ev.cstr (l := [46]) rfl) CmpR.eqS) (Ev.cstr (l := [46, 46]) rfl) (Ev.name rfl)) (Ev.name rfl) (BinR.addS (by split <;> simp only [List.length_cons, List.length_nil] <;> omega))
  · rw [List.map_map]
    have := sum_const marks ((fun l : List Nat => l.length + ([13, 10] : List Nat).length) ∘ fun m => (if ([m] == [46]) = true then [46, 46] else [m]) ++ tail) 5 (fun m _ => by
      show ((if ([m] == [46]) = true then [46, 46] else [m]) ++ tail).length + 2 ≤ 5
      rw [List.length_append]
      split <;> simp only [List.length_cons, List.length_nil] <;> omega)
    omega
  · show (quoteL at1 != onceQ marks tail) = false
    rw [P1]; simp
end
end Mine
end

section
open PySem PySem.W PyProof.Rows PySem.Calls
set_option maxHeartbeats 4000000
namespace Mine

section
variable {w : World} {K : Frag} {k : Nat} {A : Around} {L : Addr} {B : Shared} {pm cd doc : Value}
abbrev vL (ends : List (List Nat)) (h wf : Bool) (marks tail : List Nat) (l : List Nat) : List (Str × D) :=
  [("letter", dS l), ("ends", .list (ends.map F.str)), ("html", dB h), ("written_first", dB wf), ("tail", dS tail), ("marks", dS marks)]
abbrev vA (ends : List (List Nat)) (h wf : Bool) (marks tail : List Nat) (a : List Nat) : List (Str × D) :=
  [("at_once", dS a), ("ends", .list (ends.map F.str)), ("html", dB h), ("written_first", dB wf), ("tail", dS tail), ("marks", dS marks)]

theorem law_letter0 {ends : List (List Nat)} {h wf : Bool} {marks tail at1 : List Nat} : S1 (lCx w K (k + 2) A L B pm cd doc (vA ends h wf marks tail at1)) (nthS lBody 9) (.next (vL ends h wf marks tail [])) := by
  refine S1.assign (d := dS []) (Ev.cstr rfl) rfl (.inl rfl) ?_ rfl
  intro p hp
  simp only [List.mem_cons, List.not_mem_nil, or_false] at hp
  rcases hp with rfl | rfl | rfl | rfl | rfl | rfl
  · exact .inl rfl
  all_goals exact .inr ⟨by simp, by dsimp only; decide⟩

abbrev vK (ends : List (List Nat)) (h wf : Bool) (marks tail : List Nat) (l : List Nat) (i : Nat) : List (Str × D) := ("k", dI i) :: vL ends h wf marks tail l
theorem setL {ends : List (List Nat)} {h wf : Bool} {marks tail l l' : List Nat} {i : Nat} : SetV "letter" (dS l') (vK ends h wf marks tail l i) (vK ends h wf marks tail l' i) := fun p hp => by
  simp only [List.mem_cons, List.not_mem_nil, or_false] at hp
  rcases hp with rfl | rfl | rfl | rfl | rfl | rfl | rfl
  · exact .inr ⟨by simp, by dsimp only; decide⟩
  · exact .inl rfl
  all_goals exact .inr ⟨by simp, by dsimp only; decide⟩

abbrev loopS : Stmt → List Stmt
  | .For _ _ b _ _ => b
  | _ => []
theorem law_turn {ends : List (List Nat)} {h wf : Bool} {marks tail l : List Nat} {i : Nat} (T : LawTop K) (hm : marks.length = 6) (he : ends.length = 6) (he2 : ∀ e ∈ ends, e.length ≤ 2) (ht : tail.length ≤ 1) (hi : i < 6)
    (hl : l.length ≤ 2000) (hl' : (stepK marks tail ends h wf l i).length ≤ 2000) :
    SX (lCx w K (k + 2) A L B pm cd doc (vK ends h wf marks tail l i)) (loopS (nthS lBody 10)) (.next (vK ends h wf marks tail (stepK marks tail ends h wf l i) i)) := by
  have hmi : i < marks.length := by omega
  have hei : i < ends.length := by omega
  have hmk : marks[((i : Nat) : Int).toNat]? = some (marks.getD i 0) := by simp [List.getElem?_eq_getElem hmi, List.getD]
  have hek : (ends.map F.str)[((i : Nat) : Int).toNat]? = some (F.str (ends.getD i [])) := by simp [List.getElem?_eq_getElem hei, List.getD]
  have he3 : (ends.getD i []).length ≤ 2 := by
    have : ends.getD i [] = ends[i] := by simp [List.getElem?_eq_getElem hei, List.getD]
    rw [this]; exact he2 _ (List.getElem_mem hei)
  generalize hl1 : l ++ (([marks.getD i 0] ++ tail) ++ ends.getD i []) = l1
  have l1b : l1.length ≤ 2004 := by
    rw [← hl1, List.length_append, List.length_append, List.length_append]
    simp only [List.length_cons, List.length_nil]; omega
  have l1q := quoteL_le l1
  refine SX.cons (vs := vK ends h wf marks tail l1 i) ?_ ?_
  · rw [← hl1]
    refine S1.aug (a := l) (b := ([marks.getD i 0] ++ tail) ++ ends.getD i []) rfl (Ev.bin (Ev.bin (Ev.sub (x := .str [marks.getD i 0]) (Ev.name rfl) (Ev.name rfl) (SubR.str (by omega) (by omega) hmk)) (Ev.name rfl) (BinR.addS (by simp only [List.length_cons, List.length_nil]; omega)))
      (Ev.sub (x := .str (ends.getD i [])) (Ev.name rfl) (Ev.name rfl) (SubR.list (by omega) (by omega) hek)) (BinR.addS (by simp only [List.length_append, List.length_cons, List.length_nil]; omega))) rfl (.inl rfl) setL (by simp only [List.length_append, List.length_cons, List.length_nil]; omega)
  have Tc : ∀ l, LawTop (lCx w K (k + 2) A L B pm cd doc (vK ends h wf marks tail l i)).K := fun _ => T
  cases wf with
  | false =>
    refine SX.cons (vs := vK ends h false marks tail (quoteL l1) i) (S1.ite (b := true) (Ts.not (Ts.val (b := false) (Ev.name rfl) TruR.bool)) (SX.cons (S1.assign (d := dS (quoteL l1)) (Ev.call1 (Ev.glob rfl T.gquote) (Tc l1).cal.1 (Ev.name rfl) (CallR1.quote (Tc l1) rfl (by omega))) rfl (.inl rfl) setL rfl) SX.nil)) ?_
    refine SX.cons (vs := vK ends h false marks tail (if h = true then escH (quoteL l1) else escC (quoteL l1)) i) (S1.assign (d := dS (if h = true then escH (quoteL l1) else escC (quoteL l1))) (Ev.ite (q := h) (Ts.val (Ev.name rfl) TruR.bool) (fun e => ?_) (fun e => ?_)) rfl (.inl rfl) setL rfl) ?_
    · rw [if_pos e]
      exact Ev.call1 (Ev.glob rfl T.ghtml) (Tc (quoteL l1)).cal.2.2.1 (Ev.name rfl) (CallR1.escH (Tc (quoteL l1)) rfl (by omega))
    · rw [if_neg (by rw [e]; exact Bool.false_ne_true)]
      exact Ev.call1 (Ev.glob rfl T.gcdata) (Tc (quoteL l1)).cal.2.1 (Ev.name rfl) (CallR1.escC (Tc (quoteL l1)) rfl (by omega))
    refine SX.cons (S1.ite (b := false) (Ts.val (Ev.name rfl) TruR.bool) SX.nil) ?_
    have e : stepK marks tail ends h false l i = if h = true then escH (quoteL l1) else escC (quoteL l1) := by
      unfold stepK; rw [hl1]; rfl
    rw [e]
    exact SX.nil
  | true =>
    have e : stepK marks tail ends h true l i = quoteL (if h = true then escH l1 else escC l1) := by
      unfold stepK; rw [hl1]; rfl
    rw [e] at hl' ⊢
    have l3b := quoteL_ge (if h = true then escH l1 else escC l1)
    refine SX.cons (vs := vK ends h true marks tail l1 i) (S1.ite (b := false) (Ts.not (Ts.val (b := true) (Ev.name rfl) TruR.bool)) SX.nil) ?_
    refine SX.cons (vs := vK ends h true marks tail (if h = true then escH l1 else escC l1) i) (S1.assign (d := dS (if h = true then escH l1 else escC l1)) (Ev.ite (q := h) (Ts.val (Ev.name rfl) TruR.bool) (fun e => ?_) (fun e => ?_)) rfl (.inl rfl) setL rfl) ?_
    · rw [if_pos e]
      exact Ev.call1 (Ev.glob rfl T.ghtml) (Tc l1).cal.2.2.1 (Ev.name rfl) (CallR1.escH (Tc l1) rfl (by omega))
    · rw [if_neg (by rw [e]; exact Bool.false_ne_true)]
      exact Ev.call1 (Ev.glob rfl T.gcdata) (Tc l1).cal.2.1 (Ev.name rfl) (CallR1.escC (Tc l1) rfl (by omega))
    exact SX.cons (S1.ite (b := true) (Ts.val (Ev.name rfl) TruR.bool) (SX.cons (S1.assign (d := dS (quoteL (if h = true then escH l1 else escC l1))) (Ev.call1 (Ev.glob rfl T.gquote) (Tc (if h = true then escH l1 else escC l1)).cal.1 (Ev.name rfl) (CallR1.quote (Tc (if h = true then escH l1 else escC l1)) rfl (by omega))) rfl (.inl rfl) setL rfl) SX.nil)) SX.nil

theorem law_loop {ends : List (List Nat)} {h wf : Bool} {marks tail : List Nat} (T : LawTop K) (hm : marks.length = 6) (he : ends.length = 6) (he2 : ∀ e ∈ ends, e.length ≤ 2) (ht : tail.length ≤ 1)
    (hb : ∀ i, i ≤ 6 → (letterK marks tail ends h wf i).length ≤ 2000) :
    S1 (lCx w K (k + 2) A L B pm cd doc (vL ends h wf marks tail [])) (nthS lBody 10) (.next (vL ends h wf marks tail (letterK marks tail ends h wf 6))) := by
  have e6 : letterK marks tail ends h wf 6 = letterK marks tail ends h wf (rngF 6).length := by rw [rngF_len]
  rw [e6]
  refine S1.for (xs := rngF 6) (fun i => vL ends h wf marks tail (letterK marks tail ends h wf i)) (It.range (n := 6) (Ev.glob rfl T.gr) Ev.cint (by decide)) (fun o h => .inl h) Sub.refl ?_ (by intro _; rfl)
  · intro i x hx
    obtain ⟨rfl, hi⟩ := rngF_get hx
    refine ⟨_, Tgt.name, fun q hq => by simp at hq; subst hq; rfl, fun p hp => ?_, _, .inl (law_turn T hm he he2 ht hi (hb i (by omega)) (hb (i + 1) (by omega))), fun p hp => .tail _ hp⟩
    simp only [List.mem_cons, List.not_mem_nil, or_false] at hp
    rcases hp with rfl | rfl | rfl | rfl | rfl | rfl <;> rfl
end
end Mine
end

section
open PySem PySem.W PyProof.Rows PySem.Calls
set_option maxHeartbeats 4000000
namespace Mine

theorem BinR.mulI {c : Cx} {a b : Int} (hm : IntMulOk a b) : BinR c .Mult (.f (.int a)) (.f (.int b)) (.f (.int (a * b))) := fun ok s _ _ Q inv r1 r2 h => by
  cases r1; cases r2; exact PyProof.Rows.mul_int (h _ _ (inv.tok0 ok _) Up.tok (.int _ _) trivial) hm

section
variable {w : World} {K : Frag} {k : Nat} {A : Around} {L : Addr} {B : Shared} {pm cd doc : Value}
theorem law_grown {ends : List (List Nat)} {h wf : Bool} {marks tail l : List Nat} (T : LawTop K) (hm : marks.length = 6) (ht : tail.length ≤ 1) (P2 : l = grownL marks tail h) :
    S1 (lCx w K (k + 2) A L B pm cd doc (vL ends h wf marks tail l)) (nthS lBody 11) (.next (vL ends h wf marks tail l)) := by
  have Tc : LawTop (lCx w K (k + 2) A L B pm cd doc (vL ends h wf marks tail l)).K := T
  refine S1.ite (b := false) (Ts.cast (Ts.cmp (Ev.name (d := dS l) rfl) (Ev.call3 (Ev.glob rfl T.ggrown) Tc.cal.2.2.2.1 (Ev.name rfl) (Ev.name rfl) (Ev.name rfl) (CallR3.grown Tc rfl hm (by omega))) CmpR.neS) ?_) SX.nil
  rw [← P2]; simp

abbrev vT (told : Int) (marks tail : List Nat) : List (Str × D) := [("told", dI told), ("tail", dS tail), ("marks", dS marks)]
theorem law_told {ends : List (List Nat)} {h wf : Bool} {marks tail l : List Nat} (T : LawTop K) (ht : tail.length ≤ 1) (hl : l.length ≤ 2000) :
    S1 (lCx w K (k + 2) A L B pm cd doc (vL ends h wf marks tail l)) (nthS lBody 12) (.next (vT (toldK tail h l) marks tail)) := by
  have Tc : LawTop (lCx w K (k + 2) A L B pm cd doc (vL ends h wf marks tail l)).K := T
  have g := grownL_len (marks := [38, 38, 38, 38, 38, 38]) (html := h) ht
  refine S1.assign (d := dI (toldK tail h l)) (Ev.bin (Ev.bin (Ev.call1 (Ev.glob rfl T.glen) (.inl ⟨_, rfl⟩) (Ev.call3 (Ev.glob rfl T.ggrown) Tc.cal.2.2.2.1 (Ev.cstr (l := [38, 38, 38, 38, 38, 38]) rfl) (Ev.name rfl) (Ev.name rfl) (CallR3.grown Tc rfl rfl (by omega))) (CallR1.lenS (by omega)))
    (Ev.call1 (Ev.glob rfl T.glen) (.inl ⟨_, rfl⟩) (Ev.name (d := dS l) rfl) (CallR1.lenS (by omega))) BinR.subI) Ev.cint (BinR.divI (by decide) (by decide))) rfl (.inl rfl) ?_ rfl
  intro p hp
  simp only [List.mem_cons, List.not_mem_nil, or_false] at hp
  rcases hp with rfl | rfl | rfl
  · exact .inl rfl
  all_goals exact .inr ⟨by simp, by dsimp only; decide⟩

abbrev vP (x dx : Addr) (xs : List F) (told : Int) (marks tail : List Nat) : List (Str × D) := ("pile", .pile x dx xs) :: vT told marks tail
theorem law_pile {told : Int} {marks tail : List Nat} (T : LawTop K) :
    S1E (lCx w K (k + 2) A L B pm cd doc (vT told marks tail)) (nthS lBody 13) (fun vs => ∃ x dx, B.heap.get? x = none ∧ B.heap.get? dx = none ∧ vs = vP x dx [] told marks tail) := by
  refine S1E.assign (P := fun d => ∃ x dx, B.heap.get? x = none ∧ B.heap.get? dx = none ∧ d = .pile x dx []) (EvE.newPile (c := lCx w K (k + 2) A L B pm cd doc (vT told marks tail)) T.pile T.init T.new rfl) rfl (.inl rfl) ?_ rfl
  rintro d ⟨x, dx, hx, hd, rfl⟩
  exact ⟨_, ⟨x, dx, hx, hd, rfl⟩, SetV.add (by rfl)⟩

abbrev pm1 (tail : List Nat) (m : Nat) : F := pairF ([m], tail)
theorem setP {x dx : Addr} {xs ys : List F} {told : Int} {marks tail : List Nat} {pre : List (Str × D)} : SetP x dx ys (pre ++ vP x dx xs told marks tail) (vP x dx ys told marks tail) := fun p hp => by
  simp only [List.mem_cons, List.not_mem_nil, or_false] at hp
  rcases hp with rfl | rfl | rfl | rfl
  · exact .inl ⟨rfl, xs, by simp⟩
  all_goals exact .inr ⟨by simp, rfl⟩

theorem law_lay {x dx : Addr} {told : Int} {marks tail : List Nat} (T : LawTop K) (hm : marks.length = 6) (hx : B.heap.get? x = none) (hd : B.heap.get? dx = none) :
    S1 (lCx w K (k + 2) A L B pm cd doc (vP x dx [] told marks tail)) (nthS lBody 14) (.next (vP x dx (marks.map (pm1 tail)) told marks tail)) := by
  have e6 : marks.map (pm1 tail) = (marks.take (marks.map fun k => F.str [k]).length).map (pm1 tail) := by
    rw [List.length_map, List.take_length]
  rw [e6]
  refine S1.for (xs := marks.map fun k => F.str [k]) (fun i => vP x dx ((marks.take i).map (pm1 tail)) told marks tail) (It.str (Ev.name rfl)) (fun o h => .inl h) Sub.refl ?_ (by intro _; rfl)
  intro i z hz
  rw [List.getElem?_map] at hz
  cases hmi : marks[i]? with
  | none => rw [hmi] at hz; cases hz
  | some m =>
    rw [hmi] at hz
    cases hz
    refine ⟨_, Tgt.name, fun q hq => by simp at hq; subst hq; rfl, fun p hp => ?_, _, .inl (SX.cons (S1.push (k := k + 1) (vs' := vP x dx ((marks.take (i + 1)).map (pm1 tail)) told marks tail) rfl T.pile T.meth rfl (Ev.name (d := .pile x dx ((marks.take i).map (pm1 tail))) rfl) (Ev.name (d := dS [m]) rfl) (Ev.name (d := dS tail) rfl) hx hd ?_ ?_ (by intro _; rfl) rfl rfl) SX.nil), Sub.refl⟩
    · simp only [List.mem_cons, List.not_mem_nil, or_false] at hp
      rcases hp with rfl | rfl | rfl | rfl <;> rfl
    · rw [List.length_map, List.length_take]; omega
    · rw [List.take_add_one, hmi, List.map_append]
      exact setP (pre := [("mark", dS [m])])
end
end Mine
end

section
open PySem PySem.W PyProof.Rows PySem.Calls
set_option maxHeartbeats 4000000
namespace Mine

def combos : List (List Nat × Int) := [([], 1), ([46], 1), ([38], 1), ([46], 0), ([38], 0)]
def comboF (p : List Nat × Int) : F := .tup [.str p.1, .int p.2]
def skipB (marks : List Nat) (k : Nat) (new : List Nat) (gone : Int) : Bool := (gone != 0) && ((((k : Int) == 6) || ((new == [marks.getD k 0]) || false)) && true)
def hereM (marks : List Nat) (k : Nat) (new : List Nat) (gone : Int) : List Nat := (marks.take k ++ new) ++ (marks.drop k).drop gone.toNat

theorem joinL_tail (tail : List Nat) : ∀ ms : List Nat, ms ≠ [] → joinL [] (ms.map fun m => joinL [] [[m], tail]) = joinL tail (ms.map fun m => [m]) ++ tail
  | [], h => absurd rfl h
  | [m], _ => by simp [joinL]
  | m :: n :: r, _ => by
    have ih := joinL_tail tail (n :: r) (by simp)
    rw [List.map_cons, List.map_cons] at ih
    rw [List.map_cons, List.map_cons, List.map_cons, List.map_cons]
    show joinL [] [[m], tail] ++ [] ++ joinL [] (joinL [] [[n], tail] :: r.map fun m => joinL [] [[m], tail]) = ([m] ++ tail ++ joinL tail ([n] :: r.map fun m => [m])) ++ tail
    rw [ih]
    simp [joinL]
theorem strP_is {tail ms : List Nat} (h : ms ≠ []) : strP (ms.map fun m => ([m], tail)) = joinL tail (ms.map fun m => [m]) ++ tail := by
  rw [← joinL_tail tail ms h]
  unfold strP
  rw [List.map_map]
  rfl
theorem lenP_is (tail : List Nat) : ∀ ms : List Nat, lenP (ms.map fun m => ([m], tail)) = (ms.length : Int) * (1 + (tail.length : Int))
  | [] => by simp [lenP]
  | m :: r => by
    have ih := lenP_is tail r
    unfold lenP at ih ⊢
    rw [List.map_cons, List.map_cons, List.sum_cons, ih, List.length_cons]
    simp only [List.length_cons, List.length_nil]
    have e : ((r.length + 1 : Nat) : Int) * (1 + (tail.length : Int)) = (r.length : Int) * (1 + (tail.length : Int)) + (1 + (tail.length : Int)) := by
      rw [Int.natCast_add, Int.add_mul]
      simp
    rw [e]
    omega
theorem joinL_id (ms : List Nat) : joinL [] (ms.map fun m => [m]) = ms := by
  rw [joinL_one (fun m => m) ms, List.map_id']

theorem slice_drop {α : Type} {xs : List α} {n k : Nat} (h : xs.length = n) (hk : k ≤ n) : sliceL xs (some (k : Int)) none = xs.drop k := by
  unfold sliceL cut
  have h1 : ¬ ((k : Int) < 0) := by omega
  simp only [h1, if_false, Int.toNat_natCast, h]
  rw [Nat.min_eq_left hk, List.take_of_length_le (by simp [h])]
theorem cut_k {n k : Nat} (hk : k ≤ n) : cut (some (k : Int)) n 0 = k := by
  unfold cut
  have h1 : ¬ ((k : Int) < 0) := by omega
  simp only [h1, if_false, Int.toNat_natCast]
  exact Nat.min_eq_left hk

section
variable {w : World} {K : Frag} {k : Nat} {A : Around} {L : Addr} {B : Shared} {pm cd doc : Value}
abbrev vI (x dx : Addr) (xs : List F) (told : Int) (marks tail : List Nat) (kk : Nat) (new : List Nat) (gone : Int) : List (Str × D) :=
  ("gone", dI gone) :: ("new", dS new) :: ("k", dI kk) :: vP x dx xs told marks tail
abbrev vB (x dx : Addr) (xs : List F) (told : Int) (marks tail : List Nat) (kk : Nat) (new : List Nat) (gone : Int) (bh : List F) : List (Str × D) :=
  ("behind", .list bh) :: vI x dx xs told marks tail kk new gone
abbrev inner : Stmt → List Stmt := fun st => loopS (nthS (loopS st) 0)
abbrev iBody : List Stmt := inner (nthS lBody 15)

theorem law_skip {x dx : Addr} {xs : List F} {told : Int} {marks tail : List Nat} {kk : Nat} {new : List Nat} {gone : Int} (hm : marks.length = 6) (hk : kk ≤ 6) {o : Out}
    (h : SX (lCx w K (k + 2) A L B pm cd doc (vI x dx xs told marks tail kk new gone)) (if skipB marks kk new gone = true then [.Continue ⟨118, 16, 118, 24⟩] else []) o) :
    S1 (lCx w K (k + 2) A L B pm cd doc (vI x dx xs told marks tail kk new gone)) (nthS iBody 0) o := by
  refine S1.ite (b := skipB marks kk new gone) (Ts.bool (All.consA (Ts.val (Ev.name rfl) TruR.int) fun _ => All.consA (Ts.bool (All.consO (Ts.cmp (Ev.name rfl) Ev.cint CmpR.eqI) fun e => All.consO (Ts.cmp (Ev.name rfl) (Ev.sub (x := .str [marks.getD kk 0]) (Ev.name rfl) (Ev.name rfl) (SubR.str (by omega) (by omega) ?_)) CmpR.eqS) fun _ => All.nilO)) fun _ => All.nilA)) h
  have : kk < marks.length := by
    have : ¬ ((kk : Int) = 6) := by simpa using e
    omega
  simp [List.getElem?_eq_getElem this, List.getD]

theorem setPB {x dx : Addr} {xs ys : List F} {told : Int} {marks tail : List Nat} {kk : Nat} {new : List Nat} {gone : Int} {bh : List F} {pre : List (Str × D)} :
    SetP x dx ys (pre ++ vB x dx xs told marks tail kk new gone bh) (vB x dx ys told marks tail kk new gone bh) := fun p hp => by
  simp only [List.mem_cons, List.not_mem_nil, or_false] at hp
  rcases hp with rfl | rfl | rfl | rfl | rfl | rfl | rfl | rfl
  · exact .inr ⟨by simp, rfl⟩
  · exact .inr ⟨by simp, rfl⟩
  · exact .inr ⟨by simp, rfl⟩
  · exact .inr ⟨by simp, rfl⟩
  · exact .inl ⟨rfl, xs, by simp⟩
  all_goals exact .inr ⟨by simp, rfl⟩

theorem law_behind {x dx : Addr} {told : Int} {marks tail : List Nat} {kk : Nat} {new : List Nat} {gone : Int} (T : LawTop K) (hm : marks.length = 6) (hk : kk ≤ 6) (hx : B.heap.get? x = none) (hd : B.heap.get? dx = none) :
    S1 (lCx w K (k + 2) A L B pm cd doc (vI x dx (marks.map (pm1 tail)) told marks tail kk new gone)) (nthS iBody 1) (.next (vB x dx ((marks.take kk).map (pm1 tail)) told marks tail kk new gone ((marks.drop kk).map (pm1 tail)))) := by
  have hl : (marks.map (pm1 tail)).length = 6 := by rw [List.length_map, hm]
  have e1 : (marks.map (pm1 tail)).take (cut (some (kk : Int)) (marks.map (pm1 tail)).length 0) = (marks.take kk).map (pm1 tail) := by rw [hl, cut_k hk, List.map_take]
  have e2 : sliceL (marks.map (pm1 tail)) (some (kk : Int)) none = (marks.drop kk).map (pm1 tail) := by rw [slice_drop hl hk, List.map_drop]
  refine S1.popFrom (k := k + 1) (i := (kk : Int)) (vs1 := vI x dx ((marks.take kk).map (pm1 tail)) told marks tail kk new gone) rfl T.pile T.meth rfl (Ev.name (d := .pile x dx (marks.map (pm1 tail))) rfl) (Ev.name rfl) hx hd (by rw [hl]; decide) ?_ ?_ rfl (.inl rfl) (by intro _; rfl) rfl
  · rw [e1]
    intro p hp
    simp only [List.mem_cons, List.not_mem_nil, or_false] at hp
    rcases hp with rfl | rfl | rfl | rfl | rfl | rfl | rfl
    · exact .inr ⟨by simp, rfl⟩
    · exact .inr ⟨by simp, rfl⟩
    · exact .inr ⟨by simp, rfl⟩
    · exact .inl ⟨rfl, marks.map (pm1 tail), by simp⟩
    all_goals exact .inr ⟨by simp, rfl⟩
  · rw [e2]
    exact SetV.add (by rfl)

theorem law_new {x dx : Addr} {told : Int} {marks tail acc : List Nat} {kk : Nat} {new : List Nat} {gone : Int} {bh : List F} (T : LawTop K) (ha : acc.length ≤ 10) (hn : new.length ≤ 10) (hx : B.heap.get? x = none) (hd : B.heap.get? dx = none) :
    S1 (lCx w K (k + 2) A L B pm cd doc (vB x dx (acc.map (pm1 tail)) told marks tail kk new gone bh)) (nthS iBody 2) (.next (vB x dx ((acc ++ new).map (pm1 tail)) told marks tail kk new gone bh)) := by
  have e6 : (acc ++ new).map (pm1 tail) = (acc ++ new.take (new.map fun k => F.str [k]).length).map (pm1 tail) := by
    rw [List.length_map, List.take_length]
  rw [e6]
  refine S1.for (xs := new.map fun k => F.str [k]) (fun i => vB x dx ((acc ++ new.take i).map (pm1 tail)) told marks tail kk new gone bh) (It.str (Ev.name rfl)) (fun o h => .inl h) (by rw [List.take_zero, List.append_nil]; exact Sub.refl) ?_ (by intro _; rfl)
  intro i z hz
  rw [List.getElem?_map] at hz
  cases hmi : new[i]? with
  | none => rw [hmi] at hz; cases hz
  | some m =>
    rw [hmi] at hz
    cases hz
    refine ⟨_, Tgt.name, fun q hq => by simp at hq; subst hq; rfl, fun p hp => ?_, _, .inl (SX.cons (S1.push (k := k + 1) (vs' := vB x dx ((acc ++ new.take (i + 1)).map (pm1 tail)) told marks tail kk new gone bh) rfl T.pile T.meth rfl (Ev.name (d := .pile x dx ((acc ++ new.take i).map (pm1 tail))) rfl) (Ev.name (d := dS [m]) rfl) (Ev.name (d := dS tail) rfl) hx hd ?_ ?_ (by intro _; rfl) rfl rfl) SX.nil), Sub.refl⟩
    · simp only [List.mem_cons, List.not_mem_nil, or_false] at hp
      rcases hp with rfl | rfl | rfl | rfl | rfl | rfl | rfl | rfl <;> rfl
    · rw [List.length_map, List.length_append, List.length_take]; omega
    · rw [List.take_add_one, hmi, ← List.append_assoc, List.map_append (l₁ := acc ++ new.take i)]
      exact setPB (pre := [("mark", dS [m])])

theorem law_rest {x dx : Addr} {told : Int} {marks tail acc bm : List Nat} {kk : Nat} {new : List Nat} {gone : Int} (T : LawTop K) (ha : acc.length ≤ 20) (hb : bm.length ≤ 10) (hg : gone = 0 ∨ gone = 1) (hg2 : gone.toNat ≤ bm.length) (hx : B.heap.get? x = none) (hd : B.heap.get? dx = none) :
    S1 (lCx w K (k + 2) A L B pm cd doc (vB x dx (acc.map (pm1 tail)) told marks tail kk new gone (bm.map (pm1 tail)))) (nthS iBody 3) (.next (vB x dx ((acc ++ bm.drop gone.toNat).map (pm1 tail)) told marks tail kk new gone (bm.map (pm1 tail)))) := by
  have hgi : gone = (gone.toNat : Int) := by omega
  have es : sliceL (bm.map (pm1 tail)) (some gone) none = (bm.drop gone.toNat).map (pm1 tail) := by
    rw [hgi, slice_drop (n := bm.length) (by simp) hg2, List.map_drop]; rfl
  generalize hr : bm.drop gone.toNat = rest at *
  have hrl : rest.length ≤ 10 := by rw [← hr, List.length_drop]; omega
  have e6 : (acc ++ rest).map (pm1 tail) = (acc ++ rest.take (rest.map (pm1 tail)).length).map (pm1 tail) := by
    rw [List.length_map, List.take_length]
  rw [e6]
  refine S1.for (kc := kcL) (xs := rest.map (pm1 tail)) (fun i => vB x dx ((acc ++ rest.take i).map (pm1 tail)) told marks tail kk new gone (bm.map (pm1 tail))) ?_ ?_ (by rw [List.take_zero, List.append_nil]; exact Sub.refl) ?_ (by intro _; rfl)
  · rw [← es]
    exact It.list (Ev.cutL (Ev.name rfl) (Part.some (Ev.name rfl)) Part.none (by rw [List.length_map]; omega))
  · rintro o (h | h)
    · exact .inl h
    · exact .inr (.inr ⟨rfl, h⟩)
  intro i z hz
  rw [List.getElem?_map] at hz
  cases hmi : rest[i]? with
  | none => rw [hmi] at hz; cases hz
  | some m =>
    rw [hmi] at hz
    cases hz
    refine ⟨_, Tgt.pair (by decide), fun q hq => by simp at hq; rcases hq with rfl | rfl <;> rfl, fun p hp => ?_, _, .inl (SX.cons (S1.push (k := k + 1) (vs' := vB x dx ((acc ++ rest.take (i + 1)).map (pm1 tail)) told marks tail kk new gone (bm.map (pm1 tail))) rfl T.pile T.meth rfl (Ev.name (d := .pile x dx ((acc ++ rest.take i).map (pm1 tail))) rfl) (Ev.name (d := dS [m]) rfl) (Ev.name (d := dS tail) rfl) hx hd ?_ ?_ (by intro _; rfl) rfl rfl) SX.nil), Sub.refl⟩
    · simp only [List.mem_cons, List.not_mem_nil, or_false] at hp
      rcases hp with rfl | rfl | rfl | rfl | rfl | rfl | rfl | rfl <;> rfl
    · rw [List.length_map, List.length_append, List.length_take]; omega
    · rw [List.take_add_one, hmi, ← List.append_assoc, List.map_append (l₁ := acc ++ rest.take i)]
      exact setPB (pre := [("rest", dS tail), ("mark", dS [m])])
end
end Mine
end

section
open PySem PySem.W PyProof.Rows PySem.Calls
set_option maxHeartbeats 4000000
namespace Mine

def gFst : F → F
  | .tup [.str m, .str e] => .str m
  | x => x
theorem gFst_map (tail ms : List Nat) : ((ms.map (pm1 tail)).filter fun _ => true).map gFst = (ms.map fun m => [m]).map F.str := by
  rw [List.filter_eq_self.mpr (fun _ _ => rfl), List.map_map, List.map_map]; rfl
theorem mulL_one (m : List Nat) (n : Nat) : mulL [F.str m] (n : Int) = (List.replicate n m).map F.str := by
  unfold mulL
  rw [Int.toNat_natCast]
  induction n with
  | zero => rfl
  | succ n ih => rw [List.replicate_succ, List.flatten_cons, ih, List.replicate_succ, List.map_cons]; rfl

section
variable {w : World} {K : Frag} {k : Nat} {A : Around} {L : Addr} {B : Shared} {pm cd doc : Value}
abbrev vH (x dx : Addr) (ms : List Nat) (told : Int) (marks tail : List Nat) (kk : Nat) : List (Str × D) :=
  ("here", dS ms) :: ("k", dI kk) :: vP x dx (ms.map (pm1 tail)) told marks tail
abbrev vM (x dx : Addr) (ms : List Nat) (told : Int) (marks tail : List Nat) (kk : Nat) (md : List (List Nat)) : List (Str × D) :=
  ("mended", .list (md.map F.str)) :: vH x dx ms told marks tail kk

theorem law_here {x dx : Addr} {told : Int} {marks tail ms : List Nat} {kk : Nat} {new : List Nat} {gone : Int} {bh : List F} (T : LawTop K) (hl : ms.length ≤ 10) :
    S1 (lCx w K (k + 2) A L B pm cd doc (vB x dx (ms.map (pm1 tail)) told marks tail kk new gone bh)) (nthS iBody 4) (.next (vH x dx ms told marks tail kk)) := by
  have e0 : dS ms = dS (joinL [] (ms.map fun m => [m])) := by rw [joinL_id]
  refine S1.assign (d := dS ms) ?_ rfl (.inl rfl) ?_ rfl
  · rw [e0]
    refine Ev.methS (x := []) (Ev.cstr rfl) PySem.F.slot_str_join rfl ?_ (CallR2.join (sep := []) (ls := ms.map fun m => [m]) ?_)
    · rw [← gFst_map tail]
      refine Ev.comp (fun _ => true) gFst (It.pile (x := x) (dx := dx) T.pile (Ev.name rfl)) (fun o h => h.notTab) (by rw [List.length_map]; omega) rfl (by decide) rfl (by decide) .nil ?_
      intro z hz
      obtain ⟨m, _, rfl⟩ := List.mem_map.mp hz
      refine ⟨_, Tgt.pair (by decide), fun q hq => by simp at hq; rcases hq with rfl | rfl <;> rfl, fun C B' => .inl ⟨rfl, rfl⟩, fun _ C B' => ?_⟩
      exact Ev.name (d := dS [m]) rfl
    · rw [List.map_map]
      have := sum_const ms ((fun l : List Nat => l.length + ([] : List Nat).length) ∘ fun m => [m]) 1 (by intro _ _; simp)
      omega
  · intro p hp
    simp only [List.mem_cons, List.not_mem_nil, or_false] at hp
    rcases hp with rfl | rfl | rfl | rfl | rfl | rfl
    · exact .inl rfl
    all_goals exact .inr ⟨by simp, by dsimp only; decide⟩

theorem law_same {x dx : Addr} {told : Int} {marks tail ms : List Nat} {kk : Nat} (T : LawTop K) (hl : ms.length = 5 ∨ ms.length = 6 ∨ ms.length = 7) (ht : tail.length ≤ 1) :
    S1 (lCx w K (k + 2) A L B pm cd doc (vH x dx ms told marks tail kk)) (nthS iBody 5) (.next (vH x dx ms told marks tail kk)) := by
  have hne : ms ≠ [] := by rintro rfl; simp at hl
  have hpm : ms.map (pm1 tail) = (ms.map fun m => ([m], tail)).map pairF := by rw [List.map_map]; rfl
  have hps : ∀ p ∈ ms.map fun m => (([m], tail) : List Nat × List Nat), p.1.length ≤ 1000 ∧ p.2.length ≤ 1000 := fun p hp => by
    obtain ⟨m, _, rfl⟩ := List.mem_map.mp hp
    exact ⟨by simp, by dsimp only; omega⟩
  have hpl : (ms.map fun m => (([m], tail) : List Nat × List Nat)).length ≤ 100 := by rw [List.length_map]; omega
  have Tc : LawTop (lCx w K (k + 2) A L B pm cd doc (vH x dx ms told marks tail kk)).K := T
  have hj : ((ms.map fun k => [k]).map fun l => l.length + tail.length).sum ≤ 100 := by
    rw [List.map_map]
    have := sum_const ms ((fun l : List Nat => l.length + tail.length) ∘ fun m => [m]) 2 (by intro _ _; simp; omega)
    omega
  have hj2 : (joinL tail (ms.map fun m => [m])).length ≤ 100 := by
    have e := strP_is (tail := tail) hne
    have key : ∀ ms : List Nat, (joinL [] (ms.map fun m => joinL [] [[m], tail])).length ≤ 2 * ms.length := by
      intro ms
      induction ms with
      | nil => simp [joinL]
      | cons m r ih =>
        cases r with
        | nil => simp [joinL]; omega
        | cons n t =>
          have e : joinL [] ((m :: n :: t).map fun m => joinL [] [[m], tail]) = joinL [] [[m], tail] ++ [] ++ joinL [] ((n :: t).map fun m => joinL [] [[m], tail]) := rfl
          have e2 : (joinL [] [[m], tail]).length = 1 + tail.length := by simp [joinL]; omega
          rw [e, List.length_append, List.length_append, e2]
          simp only [List.length_cons, List.length_nil] at ih ⊢
          omega
    have h1 := key ms
    rw [joinL_tail tail ms hne, List.length_append] at h1
    omega
  have hmul : IntMulOk (ms.length : Int) (1 + (tail.length : Int)) := IntMulOk.of_left (by rcases hl with h | h | h <;> rw [h] <;> decide)
  refine S1.ite (b := false) (Ts.cast (Ts.bool (All.consO (Ts.cmp (Ev.call1 (Ev.glob rfl T.gstr) (.inr (.inl ⟨_, rfl⟩)) (Ev.name (d := .pile x dx ((ms.map fun m => ([m], tail)).map pairF)) (by rw [← hpm]; rfl)) (CallR1.pstr (k := k) rfl Tc.pile Tc.meth Tc.gen hpl hps)) (Ev.bin (Ev.methS (Ev.name (d := dS tail) rfl) PySem.F.slot_str_join rfl (Ev.name (d := dS ms) rfl) (CallR2.joinT (by omega))) (Ev.name rfl) (BinR.addS (by omega))) CmpR.neS) fun _ =>
    All.consO (Ts.cmp (Ev.call1 (Ev.glob rfl T.glen) (.inl ⟨_, rfl⟩) (Ev.name (d := .pile x dx ((ms.map fun m => ([m], tail)).map pairF)) (by rw [← hpm]; rfl)) (CallR1.plen (k := k) rfl Tc.pile Tc.meth Tc.gen hpl hps)) (Ev.bin (Ev.call1 (Ev.glob rfl T.glen) (.inl ⟨_, rfl⟩) (Ev.name (d := dS ms) rfl) (CallR1.lenS (by omega))) (Ev.bin Ev.cint (Ev.call1 (Ev.glob rfl T.glen) (.inl ⟨_, rfl⟩) (Ev.name (d := dS tail) rfl) (CallR1.lenS (by omega))) BinR.addI) (BinR.mulI hmul)) CmpR.neI) fun _ => All.nilO)) ?_) SX.nil
  rw [strP_is hne, lenP_is]
  simp

theorem mendedL_len (m : List Nat) (told : Int) : (mendedL m told).length ≤ 7 := by
  have h6 : ∀ (p : Nat → Bool) (n : Nat), ((List.range n).filter p).length ≤ n := fun p n => by
    have := List.length_filter_le p (List.range n)
    rwa [List.length_range] at this
  unfold mendedL mend5a mend5b mend7 mend6
  split
  · rw [List.length_map]; exact Nat.le_trans (h6 _ _) (by decide)
  · split
    · rw [List.length_map]; exact Nat.le_trans (h6 _ _) (by decide)
    · split
      · rw [List.length_map]; exact h6 _ _
      · rw [List.length_map]; exact Nat.le_trans (h6 _ _) (by decide)

theorem law_mend {x dx : Addr} {told : Int} {marks tail ms : List Nat} {kk : Nat} (T : LawTop K) (hl : ms.length = 5 ∨ ms.length = 6 ∨ ms.length = 7) :
    S1 (lCx w K (k + 2) A L B pm cd doc (vH x dx ms told marks tail kk)) (nthS iBody 6) (.next (vM x dx ms told marks tail kk (mendedL ms told))) := by
  have Tc : LawTop (lCx w K (k + 2) A L B pm cd doc (vH x dx ms told marks tail kk)).K := T
  exact S1.assign (d := .list ((mendedL ms told).map F.str)) (Ev.call2 (Ev.glob rfl T.gmended) Tc.cal.2.2.2.2 (Ev.name rfl) (Ev.name rfl) (CallR2.mended Tc rfl hl)) rfl (.inl rfl) (SetV.add (by rfl)) rfl

theorem law_told_so {x dx : Addr} {told : Int} {marks tail ms : List Nat} {kk : Nat} {md : List (List Nat)} (T : LawTop K) (hm : okT [marks]) (hn : md.length ≤ 7) (P3 : md ≠ [] ∧ md = List.replicate md.length marks) :
    S1 (lCx w K (k + 2) A L B pm cd doc (vM x dx ms told marks tail kk md)) (nthS iBody 7) (.next (vM x dx ms told marks tail kk md)) := by
  have okr : ∀ n, okT (List.replicate n marks) := fun n a ha => by rw [(List.mem_replicate.mp ha).2]; exact hm marks (.head _)
  have okm : okT md := by rw [P3.2]; exact okr _
  refine S1.ite (b := false) (Ts.cast (Ts.bool (All.consO (Ts.cmp (Ev.name (d := .list (md.map F.str)) rfl) (Ev.list (xs := []) Evs.nil (by decide)) (CmpR.eqL (as := md) (bs := []) (show 1 ≤ k + 2 by omega) okm (fun _ h => nomatch h))) fun _ =>
    All.consO (Ts.cmp (Ev.name (d := .list (md.map F.str)) rfl) ?_ (CmpR.neL (as := md) (bs := List.replicate md.length marks) (show 1 ≤ k + 2 by omega) okm (okr _))) fun _ => All.nilO)) ?_) SX.nil
  · rw [← mulL_one]
    refine Ev.bin (Ev.list (xs := [F.str marks]) (Evs.cons (Ev.name rfl) Evs.nil) (by simp)) (Ev.call1 (Ev.glob rfl T.glen) (.inl ⟨_, rfl⟩) (Ev.name (d := .list (md.map F.str)) rfl) ?_) (BinR.mulL (by omega) (by omega) (by simp))
    have := CallR1.lenL (c := lCx w K (k + 2) A L B pm cd doc (vM x dx ms told marks tail kk md)) (xs := md.map F.str) (by rw [List.length_map]; omega)
    rw [List.length_map] at this
    exact this
  · have h1 : decide (md = []) = false := by simpa using P3.1
    have h2 : decide (md = List.replicate md.length marks) = true := decide_eq_true P3.2
    rw [h1, h2]; rfl

theorem law_reset {x dx : Addr} {told : Int} {marks tail ms : List Nat} {kk : Nat} {md : List (List Nat)} (T : LawTop K) (hm : marks.length = 6) (hl : ms.length ≤ 10) (hx : B.heap.get? x = none) (hd : B.heap.get? dx = none) :
    S1 (lCx w K (k + 2) A L B pm cd doc (vM x dx ms told marks tail kk md)) (nthS iBody 8) (.next (("k", dI kk) :: vP x dx (marks.map (pm1 tail)) told marks tail)) := by
  have e := map_gChr (pm1 tail) marks
  refine S1.reset (k := k + 1) (ys := marks.map (pm1 tail)) rfl T.pile T.meth rfl (Ev.name (d := .pile x dx (ms.map (pm1 tail))) rfl) ?_ hx hd (by rw [List.length_map]; omega) (by rw [List.length_map]; omega) ?_ (by intro _; rfl) rfl rfl
  · rw [← e]
    refine Ev.comp (fun _ => true) (gChr (pm1 tail)) (It.str (Ev.name rfl)) isIt_notTab (by rw [List.length_map, hm]; decide) rfl (by decide) rfl (by decide) (.cons (y := "tail") rfl rfl rfl rfl rfl rfl .nil) ?_
    intro z hz
    obtain ⟨v, _, rfl⟩ := List.mem_map.mp hz
    refine ⟨_, .name, fun q hq => by simp at hq; subst hq; rfl, fun C B' => .inl ⟨rfl, rfl⟩, fun _ C B' => ?_⟩
    exact Ev.tuple (Evs.cons (Ev.name (d := dS [v]) rfl) (Evs.cons (Ev.name (d := dS tail) rfl) Evs.nil)) (by simp)
  · intro p hp
    simp only [List.mem_cons, List.not_mem_nil, or_false] at hp
    rcases hp with rfl | rfl | rfl | rfl | rfl
    · exact .inr ⟨by simp, rfl⟩
    · exact .inl ⟨rfl, ms.map (pm1 tail), by simp⟩
    all_goals exact .inr ⟨by simp, rfl⟩
end
end Mine
end

section
open PySem PySem.W PyProof.Rows PySem.Calls
set_option maxHeartbeats 4000000
namespace Mine

/-- what the told number must do -/
def P3 (marks : List Nat) (told : Int) : Prop := ∀ kk : Nat, kk ≤ 6 → ∀ p ∈ combos, skipB marks kk p.1 p.2 = false →
  mendedL (hereM marks kk p.1 p.2) told ≠ [] ∧ mendedL (hereM marks kk p.1 p.2) told = List.replicate (mendedL (hereM marks kk p.1 p.2) told).length marks

theorem SX.lead {c : Cx} {sts : List Stmt} {o : Out} (h : SX c (nthS sts 0 :: sts.drop 1) o) (e : nthS sts 0 :: sts.drop 1 = sts) : SX c sts o := e ▸ h

section
variable {w : World} {K : Frag} {k : Nat} {A : Around} {L : Addr} {B : Shared} {pm cd doc : Value}
theorem law_one {x dx : Addr} {told : Int} {marks tail : List Nat} {kk : Nat} {new : List Nat} {gone : Int} (T : LawTop K) (hm : marks.length = 6) (hok : okT [marks]) (ht : tail.length ≤ 1) (hk : kk ≤ 6) (hp : (new, gone) ∈ combos)
    (hx : B.heap.get? x = none) (hd : B.heap.get? dx = none) (h3 : P3 marks told) :
    ∃ vs, (SX (lCx w K (k + 2) A L B pm cd doc (vI x dx (marks.map (pm1 tail)) told marks tail kk new gone)) iBody (.next vs) ∨ SX (lCx w K (k + 2) A L B pm cd doc (vI x dx (marks.map (pm1 tail)) told marks tail kk new gone)) iBody (.cont vs)) ∧
      Sub (("k", dI kk) :: vP x dx (marks.map (pm1 tail)) told marks tail) vs := by
  have hB : iBody = [nthS iBody 0, nthS iBody 1, nthS iBody 2, nthS iBody 3, nthS iBody 4, nthS iBody 5, nthS iBody 6, nthS iBody 7, nthS iBody 8] := rfl
  rw [hB]
  cases hs : skipB marks kk new gone with
  | true =>
    refine ⟨vI x dx (marks.map (pm1 tail)) told marks tail kk new gone, .inr (SX.cont (law_skip hm hk ?_)), fun p hp => .tail _ (.tail _ hp)⟩
    rw [if_pos hs]
    exact SX.cont S1.continue
  | false =>
    have hng : new.length ≤ 1 ∧ (gone = 0 ∨ gone = 1) ∧ new.length + 1 ≥ gone.toNat ∧ (new.length = 0 → gone = 1) := by
      simp only [combos, List.mem_cons, List.not_mem_nil, or_false, Prod.mk.injEq] at hp
      rcases hp with ⟨rfl, rfl⟩ | ⟨rfl, rfl⟩ | ⟨rfl, rfl⟩ | ⟨rfl, rfl⟩ | ⟨rfl, rfl⟩ <;> decide
    obtain ⟨hn1, hg, _, hn0⟩ := hng
    have hg6 : gone.toNat + kk ≤ 6 := by
      rcases hg with rfl | rfl
      · simpa using hk
      · have : ¬ (kk = 6) := by
          rintro rfl
          simp [skipB] at hs
        show 1 + kk ≤ 6
        omega
    have hdl : (marks.drop kk).length = 6 - kk := by rw [List.length_drop, hm]
    have htl : (marks.take kk).length = kk := by rw [List.length_take, hm]; omega
    have hgn : gone.toNat ≤ 1 := by rcases hg with rfl | rfl <;> decide
    have hml : (hereM marks kk new gone).length = 5 ∨ (hereM marks kk new gone).length = 6 ∨ (hereM marks kk new gone).length = 7 := by
      unfold hereM
      rw [List.length_append, List.length_append, List.length_drop, hdl, htl]
      have : new.length = 0 → gone.toNat = 1 := fun h => by rw [hn0 h]; rfl
      omega
    refine ⟨_, .inl (SX.cons (law_skip hm hk (o := .next _) ?_) (SX.cons (law_behind T hm hk hx hd) (SX.cons (law_new (acc := marks.take kk) T (by omega) (by omega) hx hd) (SX.cons (law_rest (acc := marks.take kk ++ new) (bm := marks.drop kk) T (by rw [List.length_append]; omega) (by omega) hg (by omega) hx hd)
      (SX.cons (law_here (ms := hereM marks kk new gone) T (by omega)) (SX.cons (law_same T hml ht) (SX.cons (law_mend T hml) (SX.cons (law_told_so T hok (mendedL_len _ _) (h3 kk hk _ hp hs)) (SX.cons (law_reset T hm (by omega) hx hd) SX.nil))))))))), Sub.refl⟩
    rw [if_neg (by rw [hs]; exact Bool.false_ne_true)]
    exact SX.nil

def forT : Stmt → Expr
  | .For t _ _ _ _ => t
  | _ => default
def forI : Stmt → Expr
  | .For _ i _ _ _ => i
  | _ => default
def forP : Stmt → Pos
  | .For _ _ _ _ p => p
  | _ => ⟨0, 0, 0, 0⟩
theorem e1 : nthS (loopS (nthS lBody 15)) 0 = .For (forT (nthS (loopS (nthS lBody 15)) 0)) (forI (nthS (loopS (nthS lBody 15)) 0)) iBody [] (forP (nthS (loopS (nthS lBody 15)) 0)) := rfl
theorem e2 : nthS lBody 15 = .For (forT (nthS lBody 15)) (forI (nthS lBody 15)) (loopS (nthS lBody 15)) [] (forP (nthS lBody 15)) := rfl
theorem e3 : loopS (nthS lBody 15) = [nthS (loopS (nthS lBody 15)) 0] := rfl
theorem hsI {env : Env} {x : Value} : foldedSetIterable (forI (nthS (loopS (nthS lBody 15)) 0)) env x = pure x := rfl
theorem hsO {env : Env} {x : Value} : foldedSetIterable (forI (nthS lBody 15)) env x = pure x := rfl
theorem S1.as {c : Cx} {a b : Stmt} {o : Out} (e : a = b) (h : S1 c b o) : S1 c a o := e ▸ h
theorem SX.as {c : Cx} {a b : List Stmt} {o : Out} (e : a = b) (h : SX c b o) : SX c a o := e ▸ h

theorem ev_inner {c : Cx} : Ev c (forI (nthS (loopS (nthS lBody 15)) 0)) (.f (.tup (combos.map comboF))) := by
  refine @Ev.tuple _ _ _ _ (combos.map comboF) ?_ (by decide)
  have one : ∀ {x : Str} {l : List Nat} {g : Int} {k0 k1 k2 : Nat} {p0 p1 p2 : Pos}, x.cps.toList = l → Ev c (.Tuple [.Constant (.str x) k0 p0, .Constant (.int g) k1 p1] k2 p2) (.f (comboF (l, g))) := fun {x l g k0 k1 k2 p0 p1 p2} hl =>
    @Ev.tuple _ _ _ _ [.str l, .int g] (@Evs.cons _ _ _ _ _ _ (@Ev.cstr _ _ _ _ _ hl) (@Evs.cons _ _ _ _ _ _ (@Ev.cint _ _ _ _) (@Evs.nil _ _) (fun _ => rfl)) (fun _ => rfl)) (by simp)
  exact @Evs.cons _ _ _ _ _ _ (@one _ _ _ _ _ _ _ _ _ rfl) (@Evs.cons _ _ _ _ _ _ (@one _ _ _ _ _ _ _ _ _ rfl) (@Evs.cons _ _ _ _ _ _ (@one _ _ _ _ _ _ _ _ _ rfl) (@Evs.cons _ _ _ _ _ _ (@one _ _ _ _ _ _ _ _ _ rfl) (@Evs.cons _ _ _ _ _ _ (@one _ _ _ _ _ _ _ _ _ rfl) (@Evs.nil _ _) (fun _ => rfl)) (fun _ => rfl)) (fun _ => rfl)) (fun _ => rfl)) (fun _ => rfl)
theorem it_inner {c : Cx} : It c (forI (nthS (loopS (nthS lBody 15)) 0)) kcT (combos.map comboF) := @It.tup _ _ _ (@ev_inner _)
theorem law_inner' {x dx : Addr} {told : Int} {marks tail : List Nat} {kk : Nat} {body : List Stmt} {p : Pos}
    (hb : ∀ new gone, (new, gone) ∈ combos → ∃ vs, (SX (lCx w K (k + 2) A L B pm cd doc (vI x dx (marks.map (pm1 tail)) told marks tail kk new gone)) body (.next vs) ∨ SX (lCx w K (k + 2) A L B pm cd doc (vI x dx (marks.map (pm1 tail)) told marks tail kk new gone)) body (.cont vs)) ∧
      Sub (("k", dI kk) :: vP x dx (marks.map (pm1 tail)) told marks tail) vs) :
    S1 (lCx w K (k + 2) A L B pm cd doc (("k", dI kk) :: vP x dx (marks.map (pm1 tail)) told marks tail)) (.For (forT (nthS (loopS (nthS lBody 15)) 0)) (forI (nthS (loopS (nthS lBody 15)) 0)) body [] p) (.next (("k", dI kk) :: vP x dx (marks.map (pm1 tail)) told marks tail)) := by
  refine S1.for (kc := kcT) (xs := combos.map comboF) (fun _ => ("k", dI kk) :: vP x dx (marks.map (pm1 tail)) told marks tail) ?_ ?_ ?_ ?_ ?_
  · exact @it_inner _
  · rintro o (h | h)
    · exact .inl h
    · exact .inr (.inl h)
  · exact Sub.refl
  · intro i z hz
    obtain ⟨⟨new, gone⟩, hp, rfl⟩ := List.mem_map.mp (List.mem_of_getElem? hz)
    obtain ⟨vs, hv, hsub⟩ := hb new gone hp
    have hT : Tgt (forT (nthS (loopS (nthS lBody 15)) 0)) (comboF (new, gone)) [("gone", .int gone), ("new", .str new)] := Tgt.pair (by decide)
    refine ⟨_, hT, fun q hq => by simp at hq; rcases hq with rfl | rfl <;> rfl, fun p hp => ?_, vs, hv, hsub⟩
    simp only [List.mem_cons, List.not_mem_nil, or_false] at hp
    rcases hp with rfl | rfl | rfl | rfl | rfl <;> rfl
  · intro x
    exact hsI
theorem law_inner {x dx : Addr} {told : Int} {marks tail : List Nat} {kk : Nat} (T : LawTop K) (hm : marks.length = 6) (hok : okT [marks]) (ht : tail.length ≤ 1) (hk : kk ≤ 6)
    (hx : B.heap.get? x = none) (hd : B.heap.get? dx = none) (h3 : P3 marks told) :
    S1 (lCx w K (k + 2) A L B pm cd doc (("k", dI kk) :: vP x dx (marks.map (pm1 tail)) told marks tail)) (nthS (loopS (nthS lBody 15)) 0) (.next (("k", dI kk) :: vP x dx (marks.map (pm1 tail)) told marks tail)) :=
  @S1.as _ _ _ _ e1 (@law_inner' w K k A L B pm cd doc x dx told marks tail kk iBody _ fun new gone hp => @law_one w K k A L B pm cd doc x dx told marks tail kk new gone T hm hok ht hk hp hx hd h3)

theorem it_outer {c : Cx} (hr : gval c.K "range" = some (.type "range")) (hk : c.env.kindOf "range" = some .globalImplicit) : It c (forI (nthS lBody 15)) isIt (rngF 7) := It.range (n := 7) (Ev.glob hk hr) Ev.cint (by decide)
theorem law_outer' {x dx : Addr} {told : Int} {marks tail : List Nat} {body : List Stmt} {p : Pos} (T : LawTop K)
    (hb : ∀ kk : Nat, kk ≤ 6 → SX (lCx w K (k + 2) A L B pm cd doc (("k", dI kk) :: vP x dx (marks.map (pm1 tail)) told marks tail)) body (.next (("k", dI kk) :: vP x dx (marks.map (pm1 tail)) told marks tail))) :
    S1 (lCx w K (k + 2) A L B pm cd doc (vP x dx (marks.map (pm1 tail)) told marks tail)) (.For (forT (nthS lBody 15)) (forI (nthS lBody 15)) body [] p) (.next (vP x dx (marks.map (pm1 tail)) told marks tail)) := by
  refine S1.for (kc := isIt) (xs := rngF 7) (fun _ => vP x dx (marks.map (pm1 tail)) told marks tail) ?_ ?_ ?_ ?_ ?_
  · exact @it_outer _ T.gr rfl
  · exact fun o h => .inl h
  · exact Sub.refl
  · intro i z hz
    obtain ⟨rfl, hi⟩ := rngF_get hz
    have hT : Tgt (forT (nthS lBody 15)) (.int (i : Int)) [("k", .int (i : Int))] := Tgt.name
    refine ⟨_, hT, fun q hq => by simp at hq; subst hq; rfl, fun p hp => ?_, _, .inl (hb i (by omega)), fun p hp => .tail _ hp⟩
    simp only [List.mem_cons, List.not_mem_nil, or_false] at hp
    rcases hp with rfl | rfl | rfl | rfl <;> rfl
  · intro x
    exact hsO
theorem law_outer {x dx : Addr} {told : Int} {marks tail : List Nat} (T : LawTop K) (hm : marks.length = 6) (hok : okT [marks]) (ht : tail.length ≤ 1)
    (hx : B.heap.get? x = none) (hd : B.heap.get? dx = none) (h3 : P3 marks told) :
    S1 (lCx w K (k + 2) A L B pm cd doc (vP x dx (marks.map (pm1 tail)) told marks tail)) (nthS lBody 15) (.next (vP x dx (marks.map (pm1 tail)) told marks tail)) :=
  @S1.as _ _ _ _ e2 (@law_outer' w K k A L B pm cd doc x dx told marks tail _ _ T fun kk hk => @SX.as _ _ _ _ e3 (@SX.cons _ _ _ _ _ (@law_inner w K k A L B pm cd doc x dx told marks tail kk T hm hok ht hk hx hd h3) (@SX.nil _)))

/-- the law's plain words for one script -/
structure Plain (script : List Int) : Prop where
  once : ∀ marks tail ends, marks = (numL script).map markN → tail = tailK (numL script).sum → ends = (numL script).map endN → quoteL (onceL marks tail ends) = onceQ marks tail
  grown : ∀ marks tail ends h wf, marks = (numL script).map markN → tail = tailK (numL script).sum → ends = (numL script).map endN → h = htmlK (numL script).sum → wf = wfK (numL script).sum →
    (∀ i, i ≤ 6 → (letterK marks tail ends h wf i).length ≤ 2000) ∧ letterK marks tail ends h wf 6 = grownL marks tail h ∧ P3 marks (toldK tail h (grownL marks tail h))

theorem joinL_le (n : Nat) : ∀ ls : List (List Nat), (∀ l ∈ ls, l.length ≤ n) → (joinL [] ls).length ≤ n * ls.length
  | [], _ => by simp [joinL]
  | [x], h => by simpa [joinL] using h x (.head _)
  | x :: y :: t, h => by
    have hx := h x (.head _)
    have hr := joinL_le n (y :: t) fun z hz => h z (.tail _ hz)
    have e : (joinL [] (x :: y :: t)) = x ++ [] ++ joinL [] (y :: t) := rfl
    rw [e, List.length_append, List.length_append]
    simp only [List.length_cons, List.length_nil] at hr ⊢
    have e2 : n * (t.length + 1 + 1) = n * (t.length + 1) + n := by rw [Nat.mul_succ]
    omega
theorem once_len {marks tail : List Nat} {ends : List (List Nat)} (hm : marks.length = 6) (he2 : ∀ e ∈ ends, e.length ≤ 2) (ht : tail.length ≤ 1) : (onceL marks tail ends).length ≤ 1000 := by
  have h := joinL_le 4 ((marks.zip (ends.take 5 ++ [[]])).map fun p => ([p.1] ++ tail) ++ p.2) fun l hl => by
    obtain ⟨p, hp, rfl⟩ := List.mem_map.mp hl
    have hv := (List.of_mem_zip hp).2
    have hv2 : p.2.length ≤ 2 := by
      rcases List.mem_append.mp hv with hv | hv
      · exact he2 _ (List.mem_of_mem_take hv)
      · simp at hv; rw [hv]; simp
    simp only [List.length_append, List.length_cons, List.length_nil]; omega
  rw [List.length_map] at h
  have hl : (marks.zip (ends.take 5 ++ [[]])).length ≤ 6 := by rw [List.length_zip]; omega
  unfold onceL
  omega
theorem law_lines : lBody = [nthS lBody 0, nthS lBody 1, nthS lBody 2, nthS lBody 3, nthS lBody 4, nthS lBody 5, nthS lBody 6, nthS lBody 7, nthS lBody 8, nthS lBody 9, nthS lBody 10, nthS lBody 11, nthS lBody 12, nthS lBody 13, nthS lBody 14, nthS lBody 15, nthS lBody 16] := rfl
theorem law_whole {script : List Int} (T : LawTop K) (hs : script.length ≤ 63) (P : Plain script) :
    SX (lCx w K (k + 2) A L B pm cd doc [("seeds", .list (seedsL.map F.int)), ("script", .list (script.map F.int))]) [nthS lBody 1, nthS lBody 2, nthS lBody 3, nthS lBody 4, nthS lBody 5, nthS lBody 6, nthS lBody 7, nthS lBody 8, nthS lBody 9, nthS lBody 10, nthS lBody 11, nthS lBody 12, nthS lBody 13, nthS lBody 14, nthS lBody 15, nthS lBody 16] (.ret (.f (.bool true))) := by
  have h6 : (numL script).length = 6 := by simp [numL]
  have P1 := P.once _ _ _ rfl rfl rfl
  obtain ⟨Pb, P2, P3'⟩ := P.grown _ _ _ _ _ rfl rfl rfl rfl rfl
  refine @SX.cons _ _ _ _ _ (@law_numbers w K (k + 2) pm cd doc script _ T ⟨A, L, B, rfl⟩ hs) ?_
  refine @SX.from _ _ [("numbers", .list ((numL script).map F.int))] _ ?_ (.cons rfl .nil)
  generalize hnums : numL script = nums at *
  refine @SX.cons _ _ _ _ _ (@law_total w K (k + 2) A L B pm cd doc T _) ?_
  refine @SX.cons _ _ _ _ _ (@law_marks w K (k + 2) A L B pm cd doc _ _ (by omega)) ?_
  refine @SX.cons _ _ _ _ _ (@law_tail w K (k + 2) A L B pm cd doc _ _ _) ?_
  refine @SX.cons _ _ _ _ _ (@law_pair w K (k + 2) A L B pm cd doc _ _ _ _) ?_
  refine @SX.cons _ _ _ _ _ (@law_ends w K (k + 2) A L B pm cd doc _ _ _ _ _ (by omega)) ?_
  have hm : (nums.map markN).length = 6 := by rw [List.length_map, h6]
  have he : (nums.map endN).length = 6 := by rw [List.length_map, h6]
  have mv : ∀ n, markN n = 46 ∨ markN n = 38 := fun n => by unfold markN; split; exact .inl rfl; exact .inr rfl
  have ha : (nums.map markN).all (· < 128) = true := by
    rw [List.all_eq_true]
    intro m hm
    obtain ⟨n, _, rfl⟩ := List.mem_map.mp hm
    rcases mv n with e | e <;> rw [e] <;> decide
  have hok : okT [nums.map markN] := by
    intro a ha
    simp at ha
    subst ha
    unfold PyData.strOk
    rw [Array.all_eq_true']
    intro m hm
    have hm' : m ∈ nums.map markN := by simpa using hm
    obtain ⟨n, _, rfl⟩ := List.mem_map.mp hm'
    rcases mv n with e | e <;> rw [e] <;> decide
  have he2 : ∀ e ∈ nums.map endN, e.length ≤ 2 := fun e he => by
    obtain ⟨n, _, rfl⟩ := List.mem_map.mp he
    unfold endN
    have : ∀ i, (endsT.getD i []).length ≤ 2 := fun i => by
      match i with
      | 0 => decide
      | 1 => decide
      | 2 => decide
      | n + 3 => simp [endsT, List.getD]
    exact this _
  have ht : (tailK nums.sum).length ≤ 1 := by
    unfold tailK
    have : ∀ i, (tailsL.getD i []).length ≤ 1 := fun i => by
      match i with
      | 0 => decide
      | 1 => decide
      | 2 => decide
      | 3 => decide
      | 4 => decide
      | 5 => decide
      | 6 => decide
      | n + 7 => simp [tailsL, List.getD]
    exact this _
  generalize nums.map markN = marks at *
  generalize nums.map endN = ends at *
  generalize tailK nums.sum = tail at *
  generalize htmlK nums.sum = h at *
  generalize wfK nums.sum = wf at *
  refine @SX.cons _ _ _ _ _ (@law_once w K (k + 2) A L B pm cd doc _ _ _ _ _ T hm ha he he2 ht) ?_
  refine @SX.cons _ _ _ _ _ (@law_sent w K k A L B pm cd doc _ _ _ _ _ _ T hm ht (once_len hm he2 ht) P1) ?_
  refine @SX.cons _ _ _ _ _ (@law_letter0 w K k A L B pm cd doc _ _ _ _ _ _) ?_
  refine @SX.cons _ _ _ _ _ (@law_loop w K k A L B pm cd doc _ _ _ _ _ T hm he he2 ht Pb) ?_
  refine @SX.cons _ _ _ _ _ (@law_grown w K k A L B pm cd doc _ _ _ _ _ _ T hm ht P2) ?_
  refine @SX.cons _ _ _ _ _ (@law_told w K k A L B pm cd doc _ _ _ _ _ _ T ht (Pb 6 (Nat.le_refl _))) ?_
  rw [P2]
  refine @SX.consE _ _ _ _ _ (@law_pile w K k A L B pm cd doc _ _ _ T) ?_
  rintro _ ⟨x, dx, hx, hd, rfl⟩
  refine @SX.cons _ _ _ _ _ (@law_lay w K k A L B pm cd doc _ _ _ _ _ T hm hx hd) ?_
  refine @SX.cons _ _ _ _ _ (@law_outer w K k A L B pm cd doc _ _ _ _ _ T hm hok ht hx hd P3') ?_
  exact @SX.ret _ _ _ _ (@S1.ret _ _ _ _ (@Ev.cbool _ _ _ _))
end
end Mine
end

section
open PySem PySem.W PyProof.Rows PySem.Calls
set_option maxHeartbeats 4000000
namespace Mine

/-- no sign of an end -/
def clean (r : List Nat) : Prop := ∀ c ∈ r, c ≠ 13 ∧ c ≠ 10
theorem crlf_row : ∀ (r rest : List Nat), clean r → crlf (r ++ rest) = r ++ crlf rest
  | [], _, _ => rfl
  | c :: r, rest, h => by
    rw [List.cons_append, crlf_cons _ _ (h c (.head _)), crlf_row r rest fun x hx => h x (.tail _ hx)]; rfl
theorem crlf_clean (r : List Nat) (h : clean r) : crlf r = r := by
  have := crlf_row r [] h
  simpa [crlf] using this
theorem crlf_end {e rest : List Nat} (he : e ∈ endsT) (hr : rest.head? ≠ some 10) : crlf (e ++ rest) = [13, 10] ++ crlf rest := by
  simp only [endsT, List.mem_cons, List.not_mem_nil, or_false] at he
  rcases he with rfl | rfl | rfl
  · exact crlf_one 10 rest (.inr rfl) (by rintro ⟨h, _⟩; exact absurd h (by decide))
  · refine crlf_one 13 rest (.inl rfl) ?_
    rintro ⟨_, r', rfl⟩
    exact hr rfl
  · exact crlf_two rest
theorem crlf_line {r e rest : List Nat} (hr : clean r) (he : e ∈ endsT) (h : rest.head? ≠ some 10) : crlf ((r ++ e) ++ rest) = (r ++ [13, 10]) ++ crlf rest := by
  rw [List.append_assoc, crlf_row r _ hr, crlf_end he h, List.append_assoc]

/-- a dot more -/
def dotQ : List Nat → List Nat
  | 46 :: r => 46 :: 46 :: r
  | r => r
theorem dotq_false : ∀ (r rest : List Nat), clean r → dotq false (r ++ rest) = r ++ dotq false rest
  | [], _, _ => rfl
  | c :: r, rest, h => by
    have hc : (c == 10) = false := by simpa using (h c (.head _)).2
    rw [List.cons_append, dotq, if_neg (by simp), hc, dotq_false r rest fun x hx => h x (.tail _ hx)]; rfl
theorem dotq_true (c : Nat) (r rest : List Nat) (h : clean (c :: r)) : dotq true ((c :: r) ++ rest) = dotQ (c :: r) ++ dotq false rest := by
  have hr : clean r := fun x hx => h x (.tail _ hx)
  have hc : (c == 10) = false := by simpa using (h c (.head _)).2
  by_cases e : c = 46
  · subst e
    rw [List.cons_append, dotq, if_pos (by decide), dotq_false r rest hr]; rfl
  · rw [List.cons_append, dotq, if_neg (by simpa using e), hc, dotq_false r rest hr]
    have : dotQ (c :: r) = c :: r := by
      unfold dotQ
      split
      · rename_i h1; injection h1 with h2; exact absurd h2 e
      · rfl
    rw [this]; rfl
theorem dotq_nl (rest : List Nat) : dotq false ([13, 10] ++ rest) = [13, 10] ++ dotq true rest := rfl
theorem dotq_line (c : Nat) (r rest : List Nat) (h : clean (c :: r)) : dotq true (((c :: r) ++ [13, 10]) ++ rest) = (dotQ (c :: r) ++ [13, 10]) ++ dotq true rest := by
  rw [List.append_assoc, dotq_true c r _ h, dotq_nl, List.append_assoc]
theorem dotq_last (c : Nat) (r : List Nat) (h : clean (c :: r)) : dotq true (c :: r) = dotQ (c :: r) := by
  have := dotq_true c r [] h
  simpa [dotq] using this

/-- at once -/
theorem once_is {a b c d e f : Nat} {tail e0 e1 e2 e3 e4 e5 : List Nat} (hm : ∀ m ∈ [a, b, c, d, e, f], m = 46 ∨ m = 38) (ht : clean tail) (he : ∀ x ∈ [e0, e1, e2, e3, e4, e5], x ∈ endsT) :
    quoteL (onceL [a, b, c, d, e, f] tail [e0, e1, e2, e3, e4, e5]) = onceQ [a, b, c, d, e, f] tail := by
  have cm : ∀ m ∈ [a, b, c, d, e, f], clean (m :: tail) ∧ ∀ rest, ((m :: tail) ++ rest).head? ≠ some 10 := fun m hm' => by
    have h46 := hm m hm'
    constructor
    · intro x hx
      rcases List.mem_cons.mp hx with rfl | hx
      · rcases h46 with h | h <;> rw [h] <;> decide
      · exact ht x hx
    · intro rest
      rcases h46 with rfl | rfl <;> simp
  have h0 : onceL [a, b, c, d, e, f] tail [e0, e1, e2, e3, e4, e5] = ((a :: tail) ++ e0) ++ (((b :: tail) ++ e1) ++ (((c :: tail) ++ e2) ++ (((d :: tail) ++ e3) ++ (((e :: tail) ++ e4) ++ (f :: tail))))) := by
    simp [onceL, joinL]
  have hA := cm a (by simp)
  have hB := cm b (by simp)
  have hC := cm c (by simp)
  have hD := cm d (by simp)
  have hE := cm e (by simp)
  have hF := cm f (by simp)
  have hq : ∀ m ∈ [a, b, c, d, e, f], dotQ (m :: tail) = (if ([m] == [46]) = true then [46, 46] else [m]) ++ tail := fun m hm' => by
    rcases hm m hm' with rfl | rfl <;> rfl
  unfold quoteL
  rw [h0]
  rw [crlf_line hA.1 (he e0 (by simp)) (by rw [List.append_assoc]; exact hB.2 _)]
  rw [crlf_line hB.1 (he e1 (by simp)) (by rw [List.append_assoc]; exact hC.2 _)]
  rw [crlf_line hC.1 (he e2 (by simp)) (by rw [List.append_assoc]; exact hD.2 _)]
  rw [crlf_line hD.1 (he e3 (by simp)) (by rw [List.append_assoc]; exact hE.2 _)]
  rw [crlf_line hE.1 (he e4 (by simp)) (by have := hF.2 []; rwa [List.append_nil] at this)]
  rw [crlf_clean _ hF.1]
  rw [dotq_line _ _ _ hA.1, dotq_line _ _ _ hB.1, dotq_line _ _ _ hC.1, dotq_line _ _ _ hD.1, dotq_line _ _ _ hE.1, dotq_last _ _ hF.1]
  rw [hq a (by simp), hq b (by simp), hq c (by simp), hq d (by simp), hq e (by simp), hq f (by simp)]
  simp [onceQ, joinL]
end Mine
end

section
open PySem PySem.W PyProof.Rows PySem.Calls
set_option maxHeartbeats 4000000
namespace Mine

def fE (h : Bool) (c : Nat) : List Nat := if c = 38 then ampS else if c = 62 then gtS else if c = (if h = true then 34 else 60) then (if h = true then quotS else ltS) else [c]
def escE (h : Bool) (t : List Nat) : List Nat := t.flatMap (fE h)
theorem escC_is (t : List Nat) : escC t = escE false t := by
  unfold escC escE repl
  rw [List.flatMap_assoc, List.flatMap_assoc]
  congr 1
  funext c
  unfold fE
  by_cases h1 : c = 38
  · subst h1; rfl
  · rw [if_neg h1, if_neg h1]
    by_cases h2 : c = 60
    · subst h2; rfl
    · by_cases h3 : c = 62
      · subst h3; rfl
      · simp [h2, h3]
theorem escH_is (t : List Nat) : escH t = escE true t := by
  unfold escH escE repl
  rw [List.flatMap_assoc, List.flatMap_assoc]
  congr 1
  funext c
  unfold fE
  by_cases h1 : c = 38
  · subst h1; rfl
  · rw [if_neg h1, if_neg h1]
    by_cases h2 : c = 62
    · subst h2; rfl
    · by_cases h3 : c = 34
      · subst h3; rfl
      · simp [h2, h3]
theorem escE_is (h : Bool) (t : List Nat) : (if h = true then escH t else escC t) = escE h t := by
  cases h
  · exact escC_is t
  · exact escH_is t

theorem fE_head (h : Bool) (c : Nat) (hc : c ≠ 46) : ∃ x y, fE h c = x :: y ∧ x ≠ 46 := by
  unfold fE
  by_cases h1 : c = 38
  · rw [if_pos h1]; exact ⟨38, _, rfl, by decide⟩
  · rw [if_neg h1]
    by_cases h2 : c = 62
    · rw [if_pos h2]; exact ⟨38, _, rfl, by decide⟩
    · rw [if_neg h2]
      by_cases h3 : c = (if h = true then 34 else 60)
      · rw [if_pos h3]
        cases h
        · exact ⟨38, _, rfl, by decide⟩
        · exact ⟨38, _, rfl, by decide⟩
      · rw [if_neg h3]; exact ⟨c, [], rfl, hc⟩
theorem dotQ_not {c : Nat} {r : List Nat} (hc : c ≠ 46) : dotQ (c :: r) = c :: r := by
  unfold dotQ
  split
  · rename_i h1; injection h1 with h2; exact absurd h2 hc
  · rfl
theorem dotQ_esc (h : Bool) : ∀ r : List Nat, escE h (dotQ r) = dotQ (escE h r)
  | [] => rfl
  | c :: r => by
    by_cases hc : c = 46
    · subst hc
      have e : fE h 46 = [46] := by cases h <;> rfl
      show escE h (46 :: 46 :: r) = dotQ (escE h (46 :: r))
      unfold escE
      rw [List.flatMap_cons, List.flatMap_cons, e]
      rfl
    · rw [dotQ_not hc]
      obtain ⟨x, y, e, hx⟩ := fE_head h c hc
      unfold escE
      rw [List.flatMap_cons, e, List.cons_append, dotQ_not hx]

def good (r : List Nat) : Prop := r ≠ [] ∧ clean r
theorem fE_clean (h : Bool) (c : Nat) (hc : c ≠ 13 ∧ c ≠ 10) : clean (fE h c) ∧ fE h c ≠ [] := by
  unfold fE
  by_cases h1 : c = 38
  · rw [if_pos h1]; exact ⟨by unfold clean ampS; decide, by decide⟩
  · rw [if_neg h1]
    by_cases h2 : c = 62
    · rw [if_pos h2]; exact ⟨by unfold clean gtS; decide, by decide⟩
    · rw [if_neg h2]
      by_cases h3 : c = (if h = true then 34 else 60)
      · rw [if_pos h3]
        cases h
        · exact ⟨by unfold clean ltS; decide, by decide⟩
        · exact ⟨by unfold clean quotS; decide, by decide⟩
      · rw [if_neg h3]
        exact ⟨fun x hx => by simp at hx; subst hx; exact hc, by simp⟩
theorem escE_good (h : Bool) {r : List Nat} (g : good r) : good (escE h r) := by
  obtain ⟨g1, g2⟩ := g
  constructor
  · cases r with
    | nil => exact absurd rfl g1
    | cons c r =>
      have := (fE_clean h c (g2 c (.head _))).2
      unfold escE
      rw [List.flatMap_cons]
      intro e
      exact this (List.append_eq_nil_iff.mp e).1
  · intro x hx
    obtain ⟨c, hc, hx⟩ := List.mem_flatMap.mp hx
    exact (fE_clean h c (g2 c hc)).1 x hx
theorem dotQ_good {r : List Nat} (g : good r) : good (dotQ r) := by
  obtain ⟨g1, g2⟩ := g
  unfold dotQ
  split
  · rename_i t
    refine ⟨by simp, fun x hx => ?_⟩
    rcases List.mem_cons.mp hx with rfl | hx
    · decide
    · exact g2 x hx
  · exact ⟨g1, g2⟩

def lines (rs : List (List Nat)) : List Nat := (rs.map fun r => r ++ [13, 10]).flatten
theorem lines_cons (r : List Nat) (rs : List (List Nat)) : lines (r :: rs) = (r ++ [13, 10]) ++ lines rs := rfl
theorem head_good {r : List Nat} (g : good r) (rest : List Nat) : (r ++ rest).head? ≠ some 10 := by
  cases r with
  | nil => exact absurd rfl g.1
  | cons c r =>
    intro e
    simp at e
    exact (g.2 c (.head _)).2 e
theorem crlf_lines {r e : List Nat} (g : good r) (he : e ∈ endsT) : ∀ rs : List (List Nat), (∀ x ∈ rs, good x) → crlf (lines rs ++ (r ++ e)) = lines (rs ++ [r])
  | [], _ => by
    have := crlf_line (rest := []) g.2 he (by simp)
    rw [List.append_nil] at this
    show crlf (r ++ e) = _
    rw [this]
    simp [lines, crlf]
  | x :: rs, h => by
    have ih := crlf_lines g he rs fun y hy => h y (.tail _ hy)
    rw [lines_cons, List.append_assoc, crlf_line (h x (.head _)).2 (by decide) ?_, ih]
    · rfl
    · cases rs with
      | nil => exact head_good (r := r) g e
      | cons y t =>
        rw [lines_cons, List.append_assoc, List.append_assoc]
        exact head_good (h y (.tail _ (.head _))) _
theorem dotq_lines : ∀ rs : List (List Nat), (∀ x ∈ rs, good x) → dotq true (lines rs) = lines (rs.map dotQ)
  | [], _ => rfl
  | [] :: _, h => absurd rfl (h _ (.head _)).1
  | (c :: r) :: rs, h => by
    have ih := dotq_lines rs fun y hy => h y (.tail _ hy)
    rw [lines_cons, dotq_line c r _ (h _ (.head _)).2, ih]
    rfl
theorem esc_lines (h : Bool) : ∀ rs : List (List Nat), escE h (lines rs) = lines (rs.map (escE h))
  | [] => rfl
  | r :: rs => by
    have ih := esc_lines h rs
    have e13 : fE h 13 = [13] := by cases h <;> rfl
    have e10 : fE h 10 = [10] := by cases h <;> rfl
    unfold escE at ih ⊢
    rw [lines_cons, List.flatMap_append, List.flatMap_append, ih, List.map_cons, lines_cons]
    congr 2
    rw [List.flatMap_cons, List.flatMap_cons, e13, e10]; rfl
theorem esc_end (h : Bool) {e : List Nat} (he : e ∈ endsT) : escE h e = e := by
  simp only [endsT, List.mem_cons, List.not_mem_nil, or_false] at he
  rcases he with rfl | rfl | rfl <;> cases h <;> rfl

def rowR (h : Bool) (r : List Nat) : List Nat := dotQ (escE h r)
theorem step_is {marks tail : List Nat} {ends : List (List Nat)} {h wf : Bool} {i : Nat} {rs : List (List Nat)} (hrs : ∀ x ∈ rs, good x) (hr : good (marks.getD i 0 :: tail)) (he : ends.getD i [] ∈ endsT) :
    stepK marks tail ends h wf (lines rs) i = lines ((rs ++ [marks.getD i 0 :: tail]).map (rowR h)) := by
  have gall : ∀ x ∈ rs ++ [marks.getD i 0 :: tail], good x := fun x hx => by
    rcases List.mem_append.mp hx with hx | hx
    · exact hrs x hx
    · simp at hx; subst hx; exact hr
  unfold stepK
  rw [show [marks.getD i 0] ++ tail = marks.getD i 0 :: tail from rfl]
  cases wf with
  | false =>
    simp only [Bool.false_eq_true, if_false]
    rw [escE_is]
    unfold quoteL
    rw [crlf_lines hr he rs hrs, dotq_lines _ gall, esc_lines, List.map_map]
    congr 1
    apply List.map_congr_left
    intro x _
    exact dotQ_esc h x
  | true =>
    simp only [if_true]
    rw [escE_is]
    have e1 : escE h (lines rs ++ ((marks.getD i 0 :: tail) ++ ends.getD i [])) = lines (rs.map (escE h)) ++ (escE h (marks.getD i 0 :: tail) ++ ends.getD i []) := by
      have := esc_lines h rs
      have e2 := esc_end h he
      unfold escE at this e2 ⊢
      rw [List.flatMap_append, this, List.flatMap_append, e2]
    rw [e1]
    unfold quoteL
    have gm : ∀ x ∈ rs.map (escE h), good x := fun x hx => by
      obtain ⟨y, hy, rfl⟩ := List.mem_map.mp hx
      exact escE_good h (hrs y hy)
    rw [crlf_lines (escE_good h hr) he _ gm, dotq_lines, List.map_append, List.map_append, List.map_map]
    · rfl
    · intro x hx
      rcases List.mem_append.mp hx with hx | hx
      · exact gm x hx
      · simp at hx; subst hx; exact escE_good h hr

def rowsK (marks tail : List Nat) (h : Bool) : Nat → List (List Nat)
  | 0 => []
  | n + 1 => (rowsK marks tail h n ++ [marks.getD n 0 :: tail]).map (rowR h)
theorem letter_is {marks tail : List Nat} {ends : List (List Nat)} {h wf : Bool} (hr : ∀ i, i < 6 → good (marks.getD i 0 :: tail)) (he : ∀ i, i < 6 → ends.getD i [] ∈ endsT) :
    ∀ n, n ≤ 6 → letterK marks tail ends h wf n = lines (rowsK marks tail h n) ∧ ∀ x ∈ rowsK marks tail h n, good x
  | 0, _ => ⟨rfl, fun _ h => nomatch h⟩
  | n + 1, hn => by
    obtain ⟨ih1, ih2⟩ := letter_is hr he n (by omega)
    refine ⟨?_, fun x hx => ?_⟩
    · show stepK marks tail ends h wf (letterK marks tail ends h wf n) n = _
      rw [ih1, step_is ih2 (hr n (by omega)) (he n (by omega))]
      rfl
    · obtain ⟨y, hy, rfl⟩ := List.mem_map.mp hx
      refine dotQ_good (escE_good h ?_)
      rcases List.mem_append.mp hy with hy | hy
      · exact ih2 y hy
      · simp at hy; subst hy; exact hr n (by omega)
end Mine
end

section
open PySem PySem.W PyProof.Rows PySem.Calls
set_option maxHeartbeats 4000000
namespace Mine

def rowN (h : Bool) : Nat → List Nat → List Nat
  | 0, r => r
  | j + 1, r => rowR h (rowN h j r)
theorem row_final : ∀ m ∈ ([46, 38] : List Nat), ∀ t ∈ tailsL, ∀ h : Bool, ∀ k < 6, rowN h (6 - k) (m :: t) = rowL m k ++ tailL t h k := by decide +kernel
theorem row_short : ∀ m ∈ ([46, 38] : List Nat), ∀ t ∈ tailsL, ∀ h : Bool, ∀ j < 7, (rowN h j (m :: t)).length ≤ 100 := by decide +kernel

theorem rowsK_rows {marks tail : List Nat} {h : Bool} : ∀ n, n ≤ 6 → (rowsK marks tail h n).length = n ∧ ∀ x ∈ rowsK marks tail h n, ∃ i j, i < 6 ∧ j ≤ n ∧ x = rowN h j (marks.getD i 0 :: tail)
  | 0, _ => ⟨rfl, fun _ h => nomatch h⟩
  | n + 1, hn => by
    obtain ⟨l, ih⟩ := rowsK_rows (marks := marks) (tail := tail) (h := h) n (by omega)
    refine ⟨by simp [rowsK, l], fun x hx => ?_⟩
    obtain ⟨y, hy, rfl⟩ := List.mem_map.mp hx
    rcases List.mem_append.mp hy with hy | hy
    · obtain ⟨i, j, hi, hj, rfl⟩ := ih y hy
      exact ⟨i, j + 1, hi, by omega, rfl⟩
    · simp at hy; subst hy
      exact ⟨n, 1, by omega, by omega, rfl⟩
theorem lines_len : ∀ rs : List (List Nat), (∀ x ∈ rs, x.length ≤ 100) → (lines rs).length ≤ 102 * rs.length
  | [], _ => by simp [lines]
  | r :: rs, h => by
    have ih := lines_len rs fun x hx => h x (.tail _ hx)
    have h1 := h r (.head _)
    rw [lines_cons, List.length_append, List.length_append]
    simp only [List.length_cons, List.length_nil]
    omega

def toldM (marks : List Nat) : Int := ((List.range 6).map fun k => if marks.getD k 0 = 46 then 6 - (k : Int) else 0).sum
theorem rowL_lens : ∀ m ∈ ([46, 38] : List Nat), ∀ k < 6, ((rowL m k).length : Int) + 3 * (if m = 46 then 6 - (k : Int) else 0) = (rowL 38 k).length := by decide +kernel

def p3check (marks : List Nat) (told : Int) : Bool := (List.range 7).all fun kk => combos.all fun p => skipB marks kk p.1 p.2 ||
  (!(mendedL (hereM marks kk p.1 p.2) told).isEmpty && (mendedL (hereM marks kk p.1 p.2) told).all fun x => x == marks)
theorem p3_of {marks : List Nat} {told : Int} (h : p3check marks told = true) : P3 marks told := fun kk hk p hp hs => by
  unfold p3check at h
  rw [List.all_eq_true] at h
  have h1 := h kk (List.mem_range.mpr (by omega))
  rw [List.all_eq_true] at h1
  have h2 := h1 p hp
  rw [hs, Bool.false_or, Bool.and_eq_true] at h2
  obtain ⟨h3, h4⟩ := h2
  constructor
  · intro e; rw [e] at h3; simp at h3
  · rw [List.all_eq_true] at h4
    refine List.eq_replicate_iff.mpr ⟨rfl, fun b hb => ?_⟩
    simpa using h4 b hb
theorem p3at0 : p3check [46, 46, 46, 46, 46, 46] (toldM [46, 46, 46, 46, 46, 46]) = true := by decide +kernel
theorem p3at1 : p3check [46, 46, 46, 46, 46, 38] (toldM [46, 46, 46, 46, 46, 38]) = true := by decide +kernel
theorem p3at2 : p3check [46, 46, 46, 46, 38, 46] (toldM [46, 46, 46, 46, 38, 46]) = true := by decide +kernel
theorem p3at3 : p3check [46, 46, 46, 46, 38, 38] (toldM [46, 46, 46, 46, 38, 38]) = true := by decide +kernel
theorem p3at4 : p3check [46, 46, 46, 38, 46, 46] (toldM [46, 46, 46, 38, 46, 46]) = true := by decide +kernel
theorem p3at5 : p3check [46, 46, 46, 38, 46, 38] (toldM [46, 46, 46, 38, 46, 38]) = true := by decide +kernel
theorem p3at6 : p3check [46, 46, 46, 38, 38, 46] (toldM [46, 46, 46, 38, 38, 46]) = true := by decide +kernel
theorem p3at7 : p3check [46, 46, 46, 38, 38, 38] (toldM [46, 46, 46, 38, 38, 38]) = true := by decide +kernel
theorem p3at8 : p3check [46, 46, 38, 46, 46, 46] (toldM [46, 46, 38, 46, 46, 46]) = true := by decide +kernel
theorem p3at9 : p3check [46, 46, 38, 46, 46, 38] (toldM [46, 46, 38, 46, 46, 38]) = true := by decide +kernel
theorem p3at10 : p3check [46, 46, 38, 46, 38, 46] (toldM [46, 46, 38, 46, 38, 46]) = true := by decide +kernel
theorem p3at11 : p3check [46, 46, 38, 46, 38, 38] (toldM [46, 46, 38, 46, 38, 38]) = true := by decide +kernel
theorem p3at12 : p3check [46, 46, 38, 38, 46, 46] (toldM [46, 46, 38, 38, 46, 46]) = true := by decide +kernel
theorem p3at13 : p3check [46, 46, 38, 38, 46, 38] (toldM [46, 46, 38, 38, 46, 38]) = true := by decide +kernel
theorem p3at14 : p3check [46, 46, 38, 38, 38, 46] (toldM [46, 46, 38, 38, 38, 46]) = true := by decide +kernel
theorem p3at15 : p3check [46, 46, 38, 38, 38, 38] (toldM [46, 46, 38, 38, 38, 38]) = true := by decide +kernel
theorem p3at16 : p3check [46, 38, 46, 46, 46, 46] (toldM [46, 38, 46, 46, 46, 46]) = true := by decide +kernel
theorem p3at17 : p3check [46, 38, 46, 46, 46, 38] (toldM [46, 38, 46, 46, 46, 38]) = true := by decide +kernel
theorem p3at18 : p3check [46, 38, 46, 46, 38, 46] (toldM [46, 38, 46, 46, 38, 46]) = true := by decide +kernel
theorem p3at19 : p3check [46, 38, 46, 46, 38, 38] (toldM [46, 38, 46, 46, 38, 38]) = true := by decide +kernel
theorem p3at20 : p3check [46, 38, 46, 38, 46, 46] (toldM [46, 38, 46, 38, 46, 46]) = true := by decide +kernel
theorem p3at21 : p3check [46, 38, 46, 38, 46, 38] (toldM [46, 38, 46, 38, 46, 38]) = true := by decide +kernel
theorem p3at22 : p3check [46, 38, 46, 38, 38, 46] (toldM [46, 38, 46, 38, 38, 46]) = true := by decide +kernel
theorem p3at23 : p3check [46, 38, 46, 38, 38, 38] (toldM [46, 38, 46, 38, 38, 38]) = true := by decide +kernel
theorem p3at24 : p3check [46, 38, 38, 46, 46, 46] (toldM [46, 38, 38, 46, 46, 46]) = true := by decide +kernel
theorem p3at25 : p3check [46, 38, 38, 46, 46, 38] (toldM [46, 38, 38, 46, 46, 38]) = true := by decide +kernel
theorem p3at26 : p3check [46, 38, 38, 46, 38, 46] (toldM [46, 38, 38, 46, 38, 46]) = true := by decide +kernel
theorem p3at27 : p3check [46, 38, 38, 46, 38, 38] (toldM [46, 38, 38, 46, 38, 38]) = true := by decide +kernel
theorem p3at28 : p3check [46, 38, 38, 38, 46, 46] (toldM [46, 38, 38, 38, 46, 46]) = true := by decide +kernel
theorem p3at29 : p3check [46, 38, 38, 38, 46, 38] (toldM [46, 38, 38, 38, 46, 38]) = true := by decide +kernel
theorem p3at30 : p3check [46, 38, 38, 38, 38, 46] (toldM [46, 38, 38, 38, 38, 46]) = true := by decide +kernel
theorem p3at31 : p3check [46, 38, 38, 38, 38, 38] (toldM [46, 38, 38, 38, 38, 38]) = true := by decide +kernel
theorem p3at32 : p3check [38, 46, 46, 46, 46, 46] (toldM [38, 46, 46, 46, 46, 46]) = true := by decide +kernel
theorem p3at33 : p3check [38, 46, 46, 46, 46, 38] (toldM [38, 46, 46, 46, 46, 38]) = true := by decide +kernel
theorem p3at34 : p3check [38, 46, 46, 46, 38, 46] (toldM [38, 46, 46, 46, 38, 46]) = true := by decide +kernel
theorem p3at35 : p3check [38, 46, 46, 46, 38, 38] (toldM [38, 46, 46, 46, 38, 38]) = true := by decide +kernel
theorem p3at36 : p3check [38, 46, 46, 38, 46, 46] (toldM [38, 46, 46, 38, 46, 46]) = true := by decide +kernel
theorem p3at37 : p3check [38, 46, 46, 38, 46, 38] (toldM [38, 46, 46, 38, 46, 38]) = true := by decide +kernel
theorem p3at38 : p3check [38, 46, 46, 38, 38, 46] (toldM [38, 46, 46, 38, 38, 46]) = true := by decide +kernel
theorem p3at39 : p3check [38, 46, 46, 38, 38, 38] (toldM [38, 46, 46, 38, 38, 38]) = true := by decide +kernel
theorem p3at40 : p3check [38, 46, 38, 46, 46, 46] (toldM [38, 46, 38, 46, 46, 46]) = true := by decide +kernel
theorem p3at41 : p3check [38, 46, 38, 46, 46, 38] (toldM [38, 46, 38, 46, 46, 38]) = true := by decide +kernel
theorem p3at42 : p3check [38, 46, 38, 46, 38, 46] (toldM [38, 46, 38, 46, 38, 46]) = true := by decide +kernel
theorem p3at43 : p3check [38, 46, 38, 46, 38, 38] (toldM [38, 46, 38, 46, 38, 38]) = true := by decide +kernel
theorem p3at44 : p3check [38, 46, 38, 38, 46, 46] (toldM [38, 46, 38, 38, 46, 46]) = true := by decide +kernel
theorem p3at45 : p3check [38, 46, 38, 38, 46, 38] (toldM [38, 46, 38, 38, 46, 38]) = true := by decide +kernel
theorem p3at46 : p3check [38, 46, 38, 38, 38, 46] (toldM [38, 46, 38, 38, 38, 46]) = true := by decide +kernel
theorem p3at47 : p3check [38, 46, 38, 38, 38, 38] (toldM [38, 46, 38, 38, 38, 38]) = true := by decide +kernel
theorem p3at48 : p3check [38, 38, 46, 46, 46, 46] (toldM [38, 38, 46, 46, 46, 46]) = true := by decide +kernel
theorem p3at49 : p3check [38, 38, 46, 46, 46, 38] (toldM [38, 38, 46, 46, 46, 38]) = true := by decide +kernel
theorem p3at50 : p3check [38, 38, 46, 46, 38, 46] (toldM [38, 38, 46, 46, 38, 46]) = true := by decide +kernel
theorem p3at51 : p3check [38, 38, 46, 46, 38, 38] (toldM [38, 38, 46, 46, 38, 38]) = true := by decide +kernel
theorem p3at52 : p3check [38, 38, 46, 38, 46, 46] (toldM [38, 38, 46, 38, 46, 46]) = true := by decide +kernel
theorem p3at53 : p3check [38, 38, 46, 38, 46, 38] (toldM [38, 38, 46, 38, 46, 38]) = true := by decide +kernel
theorem p3at54 : p3check [38, 38, 46, 38, 38, 46] (toldM [38, 38, 46, 38, 38, 46]) = true := by decide +kernel
theorem p3at55 : p3check [38, 38, 46, 38, 38, 38] (toldM [38, 38, 46, 38, 38, 38]) = true := by decide +kernel
theorem p3at56 : p3check [38, 38, 38, 46, 46, 46] (toldM [38, 38, 38, 46, 46, 46]) = true := by decide +kernel
theorem p3at57 : p3check [38, 38, 38, 46, 46, 38] (toldM [38, 38, 38, 46, 46, 38]) = true := by decide +kernel
theorem p3at58 : p3check [38, 38, 38, 46, 38, 46] (toldM [38, 38, 38, 46, 38, 46]) = true := by decide +kernel
theorem p3at59 : p3check [38, 38, 38, 46, 38, 38] (toldM [38, 38, 38, 46, 38, 38]) = true := by decide +kernel
theorem p3at60 : p3check [38, 38, 38, 38, 46, 46] (toldM [38, 38, 38, 38, 46, 46]) = true := by decide +kernel
theorem p3at61 : p3check [38, 38, 38, 38, 46, 38] (toldM [38, 38, 38, 38, 46, 38]) = true := by decide +kernel
theorem p3at62 : p3check [38, 38, 38, 38, 38, 46] (toldM [38, 38, 38, 38, 38, 46]) = true := by decide +kernel
theorem p3at63 : p3check [38, 38, 38, 38, 38, 38] (toldM [38, 38, 38, 38, 38, 38]) = true := by decide +kernel
theorem two_marks {x : Nat} (h : x ∈ ([46, 38] : List Nat)) : x = 46 ∨ x = 38 := by simpa using h
theorem p3_all : ∀ a ∈ ([46, 38] : List Nat), ∀ b ∈ ([46, 38] : List Nat), ∀ c ∈ ([46, 38] : List Nat), ∀ d ∈ ([46, 38] : List Nat), ∀ e ∈ ([46, 38] : List Nat), ∀ f ∈ ([46, 38] : List Nat), p3check [a, b, c, d, e, f] (toldM [a, b, c, d, e, f]) = true := by
  intro a ha b hb c hc d hd e he f hf
  rcases two_marks ha with rfl | rfl <;> rcases two_marks hb with rfl | rfl <;> rcases two_marks hc with rfl | rfl <;> rcases two_marks hd with rfl | rfl <;> rcases two_marks he with rfl | rfl <;> rcases two_marks hf with rfl | rfl
  · with_reducible exact p3at0
  · with_reducible exact p3at1
  · with_reducible exact p3at2
  · with_reducible exact p3at3
  · with_reducible exact p3at4
  · with_reducible exact p3at5
  · with_reducible exact p3at6
  · with_reducible exact p3at7
  · with_reducible exact p3at8
  · with_reducible exact p3at9
  · with_reducible exact p3at10
  · with_reducible exact p3at11
  · with_reducible exact p3at12
  · with_reducible exact p3at13
  · with_reducible exact p3at14
  · with_reducible exact p3at15
  · with_reducible exact p3at16
  · with_reducible exact p3at17
  · with_reducible exact p3at18
  · with_reducible exact p3at19
  · with_reducible exact p3at20
  · with_reducible exact p3at21
  · with_reducible exact p3at22
  · with_reducible exact p3at23
  · with_reducible exact p3at24
  · with_reducible exact p3at25
  · with_reducible exact p3at26
  · with_reducible exact p3at27
  · with_reducible exact p3at28
  · with_reducible exact p3at29
  · with_reducible exact p3at30
  · with_reducible exact p3at31
  · with_reducible exact p3at32
  · with_reducible exact p3at33
  · with_reducible exact p3at34
  · with_reducible exact p3at35
  · with_reducible exact p3at36
  · with_reducible exact p3at37
  · with_reducible exact p3at38
  · with_reducible exact p3at39
  · with_reducible exact p3at40
  · with_reducible exact p3at41
  · with_reducible exact p3at42
  · with_reducible exact p3at43
  · with_reducible exact p3at44
  · with_reducible exact p3at45
  · with_reducible exact p3at46
  · with_reducible exact p3at47
  · with_reducible exact p3at48
  · with_reducible exact p3at49
  · with_reducible exact p3at50
  · with_reducible exact p3at51
  · with_reducible exact p3at52
  · with_reducible exact p3at53
  · with_reducible exact p3at54
  · with_reducible exact p3at55
  · with_reducible exact p3at56
  · with_reducible exact p3at57
  · with_reducible exact p3at58
  · with_reducible exact p3at59
  · with_reducible exact p3at60
  · with_reducible exact p3at61
  · with_reducible exact p3at62
  · with_reducible exact p3at63

theorem grown_lines (marks tail : List Nat) (h : Bool) : grownL marks tail h = lines ((List.range 6).map fun k => rowL (marks.getD k 0) k ++ tailL tail h k) := by
  unfold grownL lines
  rw [List.map_map]
  have e : ∀ ls : List (List Nat), joinL [] ls = ls.flatten := by
    intro ls
    induction ls with
    | nil => rfl
    | cons x r ih =>
      cases r with
      | nil => simp [joinL]
      | cons y t =>
        show x ++ [] ++ joinL [] (y :: t) = _
        rw [ih]; simp
  rw [e]
  rfl
theorem lines_length (rs : List (List Nat)) : (lines rs).length = (rs.map fun r => r.length + 2).sum := by
  unfold lines
  induction rs with
  | nil => rfl
  | cons r rs ih => simp [ih]; omega

theorem told_is {a b c d e f : Nat} {tail : List Nat} {h : Bool} (hm : ∀ m ∈ [a, b, c, d, e, f], m ∈ ([46, 38] : List Nat)) : toldK tail h (grownL [a, b, c, d, e, f] tail h) = toldM [a, b, c, d, e, f] := by
  unfold toldK
  rw [grown_lines, grown_lines, lines_length, lines_length]
  have h0 := rowL_lens a (hm a (by simp)) 0 (by decide)
  have h1 := rowL_lens b (hm b (by simp)) 1 (by decide)
  have h2 := rowL_lens c (hm c (by simp)) 2 (by decide)
  have h3 := rowL_lens d (hm d (by simp)) 3 (by decide)
  have h4 := rowL_lens e (hm e (by simp)) 4 (by decide)
  have h5 := rowL_lens f (hm f (by simp)) 5 (by decide)
  simp only [List.range_succ, List.range_zero, List.nil_append, List.map_append, List.map_cons, List.map_nil, List.cons_append, List.sum_cons, List.sum_nil, List.getD_cons_zero, List.getD_cons_succ, List.length_append, toldM]
  generalize (tailL tail h 0).length = t0
  generalize (tailL tail h 1).length = t1
  generalize (tailL tail h 2).length = t2
  generalize (tailL tail h 3).length = t3
  generalize (tailL tail h 4).length = t4
  generalize (tailL tail h 5).length = t5
  generalize (rowL a 0).length = x0 at *
  generalize (rowL b 1).length = x1 at *
  generalize (rowL c 2).length = x2 at *
  generalize (rowL d 3).length = x3 at *
  generalize (rowL e 4).length = x4 at *
  generalize (rowL f 5).length = x5 at *
  generalize (rowL 38 0).length = y0 at *
  generalize (rowL 38 1).length = y1 at *
  generalize (rowL 38 2).length = y2 at *
  generalize (rowL 38 3).length = y3 at *
  generalize (rowL 38 4).length = y4 at *
  generalize (rowL 38 5).length = y5 at *
  generalize (if a = 46 then 6 - ((0 : Nat) : Int) else 0) = g0 at *
  generalize (if b = 46 then 6 - ((1 : Nat) : Int) else 0) = g1 at *
  generalize (if c = 46 then 6 - ((2 : Nat) : Int) else 0) = g2 at *
  generalize (if d = 46 then 6 - ((3 : Nat) : Int) else 0) = g3 at *
  generalize (if e = 46 then 6 - ((4 : Nat) : Int) else 0) = g4 at *
  generalize (if f = 46 then 6 - ((5 : Nat) : Int) else 0) = g5 at *
  have key : ∀ S T : Int, S = 3 * T → S.fdiv 3 = T := fun S T e => by rw [e, Int.mul_fdiv_cancel_left _ (by decide)]
  apply key
  simp only [Int.natCast_add, Int.natCast_zero]
  omega

theorem markN_in (n : Int) : markN n ∈ ([46, 38] : List Nat) := by unfold markN; split <;> simp
theorem endN_in (n : Int) : endN n ∈ endsT := by
  unfold endN
  have h0 : 0 ≤ (n.fdiv 2).fmod 3 := Int.fmod_nonneg_of_pos _ (by decide)
  have h1 : (n.fdiv 2).fmod 3 < 3 := Int.fmod_lt_of_pos _ (by decide)
  have : ∀ i < 3, endsT.getD i [] ∈ endsT := by decide
  exact this _ (by omega)
theorem tailK_in (t : Int) : tailK t ∈ tailsL := by
  unfold tailK
  have h0 : 0 ≤ t.fmod 7 := Int.fmod_nonneg_of_pos t (by decide)
  have h1 : t.fmod 7 < 7 := Int.fmod_lt_of_pos t (by decide)
  have : ∀ i < 7, tailsL.getD i [] ∈ tailsL := by decide
  exact this _ (by omega)
theorem tails_clean : ∀ t ∈ tailsL, clean t := by unfold clean; decide

theorem plain_law (script : List Int) : Plain script := by
  have hn : numL script = [numK script 0, numK script 1, numK script 2, numK script 3, numK script 4, numK script 5] := rfl
  constructor
  · rintro marks tail ends rfl rfl rfl
    rw [hn]
    refine once_is (a := markN _) (fun m hm => ?_) (tails_clean _ (tailK_in _)) (fun x hx => ?_)
    · have : m ∈ ([46, 38] : List Nat) := by
        simp only [List.mem_cons, List.not_mem_nil, or_false] at hm
        rcases hm with rfl | rfl | rfl | rfl | rfl | rfl <;> exact markN_in _
      simpa using this
    · simp only [List.mem_cons, List.not_mem_nil, or_false] at hx
      rcases hx with rfl | rfl | rfl | rfl | rfl | rfl <;> exact endN_in _
  · rintro marks tail ends h wf hmk htl hen _ _
    have ht : tail ∈ tailsL := by rw [htl]; exact tailK_in _
    obtain ⟨a, b, c, d, e, f, hm6, hm⟩ : ∃ a b c d e f, marks = [a, b, c, d, e, f] ∧ ∀ m ∈ [a, b, c, d, e, f], m ∈ ([46, 38] : List Nat) := by
      refine ⟨_, _, _, _, _, _, by rw [hmk, hn]; rfl, fun m hm => ?_⟩
      simp only [List.mem_cons, List.not_mem_nil, or_false] at hm
      rcases hm with rfl | rfl | rfl | rfl | rfl | rfl <;> exact markN_in _
    have he6 : ∀ i, i < 6 → ends.getD i [] ∈ endsT := by
      intro i hi
      have hl : i < ends.length := by rw [hen, hn]; exact hi
      have : ends.getD i [] = ends[i] := by simp [List.getD, List.getElem?_eq_getElem hl]
      rw [this]
      have all : ∀ x ∈ ends, x ∈ endsT := fun x hx => by
        rw [hen] at hx
        obtain ⟨n, _, rfl⟩ := List.mem_map.mp hx
        exact endN_in n
      exact all _ (List.getElem_mem hl)
    subst hm6
    have mi : ∀ i, i < 6 → ([a, b, c, d, e, f].getD i 0) ∈ ([46, 38] : List Nat) := fun i hi => by
      have hl : i < [a, b, c, d, e, f].length := hi
      have e0 : [a, b, c, d, e, f].getD i 0 = [a, b, c, d, e, f][i] := by simp only [List.getD, List.getElem?_eq_getElem hl, Option.getD_some]
      rw [e0]
      exact hm _ (List.getElem_mem hl)
    have hgood : ∀ i, i < 6 → good ([a, b, c, d, e, f].getD i 0 :: tail) := fun i hi => by
      refine ⟨by simp, fun x hx => ?_⟩
      rcases List.mem_cons.mp hx with rfl | hx
      · have := mi i hi
        simp only [List.mem_cons, List.not_mem_nil, or_false] at this
        rcases this with h | h <;> rw [h] <;> decide
      · exact tails_clean tail ht x hx
    have L := letter_is (h := h) (wf := wf) hgood he6
    refine ⟨fun i hi => ?_, ?_, ?_⟩
    · rw [(L i hi).1]
      obtain ⟨l, hr⟩ := rowsK_rows (marks := [a, b, c, d, e, f]) (tail := tail) (h := h) i hi
      have := lines_len (rowsK [a, b, c, d, e, f] tail h i) fun x hx => by
        obtain ⟨i', j, hi', hj, rfl⟩ := hr x hx
        exact row_short _ (mi i' hi') tail ht h j (by omega)
      rw [l] at this
      omega
    · rw [(L 6 (Nat.le_refl _)).1, grown_lines]
      have hR : rowsK [a, b, c, d, e, f] tail h 6 = [rowN h 6 (a :: tail), rowN h 5 (b :: tail), rowN h 4 (c :: tail), rowN h 3 (d :: tail), rowN h 2 (e :: tail), rowN h 1 (f :: tail)] := rfl
      have hL : ((List.range 6).map fun k => rowL ([a, b, c, d, e, f].getD k 0) k ++ tailL tail h k) = [rowL a 0 ++ tailL tail h 0, rowL b 1 ++ tailL tail h 1, rowL c 2 ++ tailL tail h 2, rowL d 3 ++ tailL tail h 3, rowL e 4 ++ tailL tail h 4, rowL f 5 ++ tailL tail h 5] := rfl
      rw [hR, hL]
      have q0 : rowN h 6 (a :: tail) = _ := row_final a (hm a (by simp)) tail ht h 0 (by decide)
      have q1 : rowN h 5 (b :: tail) = _ := row_final b (hm b (by simp)) tail ht h 1 (by decide)
      have q2 : rowN h 4 (c :: tail) = _ := row_final c (hm c (by simp)) tail ht h 2 (by decide)
      have q3 : rowN h 3 (d :: tail) = _ := row_final d (hm d (by simp)) tail ht h 3 (by decide)
      have q4 : rowN h 2 (e :: tail) = _ := row_final e (hm e (by simp)) tail ht h 4 (by decide)
      have q5 : rowN h 1 (f :: tail) = _ := row_final f (hm f (by simp)) tail ht h 5 (by decide)
      rw [q0, q1, q2, q3, q4, q5]
    · rw [told_is hm]
      exact p3_of (p3_all a (hm a (by simp)) b (hm b (by simp)) c (hm c (by simp)) d (hm d (by simp)) e (hm e (by simp)) f (hm f (by simp)))
end Mine
end

section
open PySem PySem.W PyProof.Rows PySem.Calls
set_option maxHeartbeats 4000000
namespace Mine

/-- a call from outside all frames -/
theorem call_top {w : World} {K : Frag} {k : Nat} {A : Around} (hA : A.handled = none) (hd : A.depth + 10 * (k + 1) ≤ 990) (hu : A.units + 100 * (k + 1) ≤ 9800) (G : GOk K) {a : Addr} {fd : FuncData} {body : List Stmt} (f : FnOk K a fd body) (kl : Bool) {ds : List (Str × D)}
    {vals : List Value} {binds : List (Str × Value)} {s : Shared} (wd : Wd K s) (hbind : _root_.PySem.BindsTo s fd ⟨vals, []⟩ binds) (hb : BindsTo w s.heap binds ds) (hnb : (binds.map (·.1)).Nodup)
    (hkind : ∀ x ∈ binds, fd.scope.names.lookup x.1 = some .local ∨ (fd.scope.names.lookup x.1 = some .cell ∧ (x.1 == ("__classdict__" : Str)) = false ∧ ((cellsFrom (s.heap.objs.size + 1) fd.scope.names []).lookup x.1).isSome = true))
    {Q : Value → Shared → Prop} (h : ∀ s', (fnCx w K k A fd a s.heap.objs.size s kl ds).Ok → (fnCx w K k A fd a s.heap.objs.size s kl ds).Inv0 s' → Up s s' →
      wpAny (model PG w) (fnCx w K k A fd a s.heap.objs.size s kl ds).A (execs body (fnCx w K k A fd a s.heap.objs.size s kl ds).env) (fun fl s'' => Q (match fl with | .ret v => v | _ => .none) s'') NoE s') :
    wpAny (model PG w) A (call (.ref a) vals) Q NoE s := by
  obtain ⟨cl, dd, sl, hK⟩ := f.at'
  obtain ⟨cd, oc, vs, t, hcd, hct, hKc, hdc, hq⟩ := f.code
  refine wpAny_call (codeAny_call_function (o := _) (show A.depth < 1000 by omega) (wd.st _ _ hK f.nt) rfl f.co f.gen f.body ⟨cd, oc, vs, t, hcd, wd.st _ _ hKc hct, hdc, hq⟩ ?_)
  rw [f.clo]
  refine hbind _ _ _ _ (wpAny_newFunctionEnv_cells f.kind (fun x hx => (hkind x hx).elim .inl fun y => .inr ⟨y.1, y.2.2⟩) fun env he s' X => ?_)
  subst he
  refine ⟨(wd.noLimit G).keeps X.toInCall.keep, codeAny_func ?_⟩
  have hfresh : s.heap.get? s.heap.objs.size = none := fresh_size (Nat.le_refl _)
  have okf : (fnCx w K k A fd a s.heap.objs.size s kl ds).Ok := by
    refine ⟨hA, ?_, ?_, f.kind, f.glob, f.blt, G, wd, hfresh, X.apart, fun p hp => fresh_size (Nat.le_of_lt (X.above p.1 p.2 hp))⟩
    · show A.depth + 1 + 10 * k ≤ 990; omega
    · show A.units + 3 + 100 * k ≤ 9800; omega
  have upS : Up s s' := by
    obtain ⟨h', tk, e, hk'⟩ := X.done
    rw [e]; exact Up.of hk'
  have wdS : Wd K s' := by
    obtain ⟨h', tk, e, hk'⟩ := X.done
    rw [e]; exact wd.keeps hk'
  have invf : (fnCx w K k A fd a s.heap.objs.size s kl ds).Inv0 s' := by
    refine ⟨wdS, upS, ⟨_, X.toInCall.ns⟩, fun p hp => ?_, fun p hp => ?_⟩
    · obtain ⟨v, hv, r⟩ := hb.mem p hp
      refine ⟨v, ?_, r.up upS, r.notFresh hfresh⟩
      rcases hkind _ hv with hl | ⟨hl, hcd', hs⟩
      · exact .inl ⟨hl, _, X.toInCall.ns, bindL_mem hnb hv hl⟩
      · obtain ⟨ac, hac⟩ := Option.isSome_iff_exists.mp hs
        refine .inr ⟨.inl hl, hcd', ac, hac, ?_⟩
        have := X.cell _ _ hac
        rwa [bindC_mem hnb hv (fun e => by
          have e' : fd.scope.names.lookup p.1 = some .local := e
          rw [hl] at e'; cases e')] at this
    · have hnd : ((cellsFrom (s.heap.objs.size + 1) fd.scope.names []).map (·.1)).Nodup := cellsFrom_names fd.scope.names 0 (s.heap.objs.size + 1) [] [] rfl ▸ f.nd
      exact ⟨_, X.cell p.1 p.2 (lookup_of_mem_nodup hnd hp)⟩
  exact wpAny_mono (h s' okf invf upS) (fun _ _ x => x) fun _ _ x => x.elim

section
variable {w : World} {K : Frag} {k : Nat} {A : Around} {L : Addr} {B : Shared} {pm cd doc : Value}
/-- the first line, from a state of which nothing is known of the count of signs -/
theorem law_first {script : List Int} (ok : (lCx w K k A L B pm cd doc [("script", .list (script.map F.int))]).Ok) {s : Shared} (i : (lCx w K k A L B pm cd doc [("script", .list (script.map F.int))]).Inv0 s) {Q : Flow → Shared → Prop}
    (h : ∀ s', (lCx w K k A L B pm cd doc [("seeds", .list (seedsL.map F.int)), ("script", .list (script.map F.int))]).Inv s' → Q .next s') :
    wpAny (model PG w) (lCx w K k A L B pm cd doc [("script", .list (script.map F.int))]).A (exec (nthS lBody 0) (lCx w K k A L B pm cd doc [("script", .list (script.map F.int))]).env) Q NoE s := by
  refine wpAny_Assign_Name ?_ rfl
  refine wpAny_List ?_
  refine wpAny_items_cons (wpAny_Constant_int (wpAny_items_cons (wpAny_Constant_int (wpAny_items_cons (wpAny_Constant_int (wpAny_items_cons (wpAny_Constant_int (wpAny_items_cons (wpAny_Constant_int (wpAny_items_cons (wpAny_Constant_int (wpAny_items_nil ?_))))))))))))
  refine ⟨by rw [sizeLine_eq]; simp, ?_⟩
  have i1 := (i.tok ok (s.toks + 1 + 1 + 1 + 1 + 1 + 1))
  have rl : RepFs s.heap [.int 1 s.toks, .int 2 (s.toks + 1), .int 5 (s.toks + 1 + 1), .int 7 (s.toks + 1 + 1 + 1), .int 4 (s.toks + 1 + 1 + 1 + 1), .int 8 (s.toks + 1 + 1 + 1 + 1 + 1)] (seedsL.map F.int) :=
    .cons (.int _ _) (.cons (.int _ _) (.cons (.int _ _) (.cons (.int _ _) (.cons (.int _ _) (.cons (.int _ _) .nil)))))
  have rD := Rep.newList (w := w) (s := { s with toks := s.toks + 1 + 1 + 1 + 1 + 1 + 1 }) rl
  have i2 := i1.keeps ok (h' := s.heap.push { cls := .type "list", data := .seq [Value.int 1 s.toks, .int 2 (s.toks + 1), .int 5 (s.toks + 1 + 1), .int 7 (s.toks + 1 + 1 + 1), .int 4 (s.toks + 1 + 1 + 1 + 1), .int 8 (s.toks + 1 + 1 + 1 + 1 + 1)].toArray }) (tk := s.toks + 1 + 1 + 1 + 1 + 1 + 1) fun _ _ e => Heap.get?_push_of_some _ e
  refine wpAny_with_toks (n := 1) (show 1 ≤ s.toks + 1 + 1 + 1 + 1 + 1 + 1 by omega) (toE ?_)
  exact wp_store ok i2 rfl (.inr ⟨rfl, rfl, rfl⟩) (SetV.add (by rfl)) rD trivial fun s3 i3 _ _ pos => h s3 ⟨i3, pos⟩
end

theorem law_call {w : World} {K : Frag} (T : LawTop K) (G : GOk K) {pm cd doc : Value} (fk : FnOk K 175 (lFd pm cd doc) lBody) {s : Shared} (wd : Wd K s) {script : List Int} (hs : script.length ≤ 63) {v : Value} (hv : Rep w s.heap v (.list (script.map F.int))) :
    wpAny (model PG w) callerA (call (.ref 175) [v]) (fun r s' => r = .bool true ∧ Up s s') NoE s := by
  refine call_top (k := 5) rfl (by decide) (by decide) G fk true (binds := [("script", v)]) (ds := [("script", .list (script.map F.int))]) wd (.of_eq rfl) (.cons hv .nil) (by show (["script"] : List Str).Nodup; decide) (fun y hy => by simp at hy; subst hy; exact .inr ⟨rfl, rfl, rfl⟩) fun s1 okf i1 u1 => ?_
  rw [law_lines]
  refine wpAny_execs_cons (@law_first w K 5 callerA _ s pm cd doc script okf s1 i1 _ fun s2 i2 => ?_)
  have ok2 := okf.wv [("seeds", .list (seedsL.map F.int)), ("script", .list (script.map F.int))]
  refine (@law_whole w K 3 callerA s.heap.objs.size s pm cd doc script T hs (plain_law script)) ok2 s2 _ i2 fun fl s3 ⟨v3, e, r3, i3, _⟩ => ?_
  subst e
  cases r3
  exact ⟨rfl, i3.up⟩
end Mine
end

section
open PySem PySem.W PyProof.Rows PySem.Calls
set_option maxHeartbeats 4000000
namespace Mine
def keysStr (es : Array DictEntry) : Bool := es.all fun e => match e.key with | .str .. => true | _ => false
theorem keys_of {es : Array DictEntry} (h : keysStr es = true) : StrKeys es := fun e he => by
  have := Array.all_eq_true'.mp h e he
  cases hk : e.key <;> rw [hk] at this <;> first | exact ⟨_, _, rfl⟩ | cases this

theorem tabFit {K : Frag} {cc P : Addr} {pos : Pos} (hp : (P = 96 ∧ pos.line = 31 ∧ pos.col = 19) ∨ (P = 103 ∧ pos.line = 34 ∧ pos.col = 32))
    (code : ∃ vs, K.lookup cc = some ⟨.type "code", none, .fields vs, #[]⟩ ∧ vs[11]? = some (.ref P) ∧ (∃ f t, vs.getD 18 .none = .str f t) ∧ (∃ f t, vs.getD 7 .none = .int f t) ∧ (∃ b, vs.getD 9 .none = .bool b) ∧ (∃ f t, vs.getD 10 .none = .int f t))
    (nt : cc ∉ tabs) (tab : P ∈ tabs) : CodeTop K cc P pos := by
  refine ⟨code, nt, tab, fun ps h => ?_, fun c' => ?_⟩
  · rcases h with h | ⟨e, c, rfl⟩ | ⟨e, c, rfl⟩
    · exact .inl h
    · rcases hp with ⟨_, h1, h2⟩ | ⟨e', _, _⟩
      · refine .inr ⟨c, ?_⟩
        simp [codeAmong, h1, h2]
      · rw [e'] at e; cases e
    · rcases hp with ⟨e', _, _⟩ | ⟨_, h1, h2⟩
      · rw [e'] at e; cases e
      · refine .inr ⟨c, ?_⟩
        simp [codeAmong, h1, h2]
  · rcases hp with ⟨e, h1, h2⟩ | ⟨e, h1, h2⟩
    · exact .inr (.inl ⟨e, c', by rw [h1, h2]; rfl⟩)
    · exact .inr (.inr ⟨e, c', by rw [h1, h2]; rfl⟩)

/-- all that is asked of the part of the heap that stands at the top -/
structure Facts (K : Frag) : Prop where
  gok : GOk K
  law : LawTop K
  fk : ∃ pm cd doc, FnOk K 175 (lFd pm cd doc) lBody
  t96 : K.lookup 96 = some (tabObj #[])
  t103 : K.lookup 103 = some (tabObj #[])
  me : nsFind (entriesOf K mainGlobals) "law" = some (.ref 175)
end Mine
end

section
open PySem PySem.W PyProof.Rows PySem.Calls
set_option maxHeartbeats 4000000
namespace Mine

theorem ints_well {P : Params} {h : Heap} {R : WRecords} : ∀ {xs : List WData} {vs : List Value}, WShape.hasItems R xs .int = true → WellAll P h vs xs → ∃ script : List Int, xs.length = script.length ∧ RepFs h vs (script.map F.int)
  | [], _, _, .nil => ⟨[], rfl, .nil⟩
  | x :: xs, _, hh, .cons (v := v) hv hvs => by
    simp only [WShape.hasItems, Bool.and_eq_true] at hh
    obtain ⟨i, rfl⟩ := hasW_int hh.1
    obtain ⟨is, e, r⟩ := ints_well hh.2 hvs
    cases hv with
    | int _ t => exact ⟨i :: is, by simp [e], .cons (.int i t) r⟩

abbrev rr : RowW := PySem.Challenge.rw_xe0014_01.row.toRowW

theorem pre_len {xs : List WData} (h : rr.pre.holds rr.records { args := [.list xs] } = true) : xs.length ≤ 63 := by
  have hv : rr.pre.value rr.records { args := [.list xs] } = some (.bool (!decide ((63 : Int) < (xs.length : Int)) && true)) :=
    w_and (w_not (w_lt rfl (w_len_list rfl))) rfl
  have := condW_of h hv
  simp at this
  omega

theorem args_of {w : World} {h : Heap} {args : List WData} {vals : List Value} (hpre : rr.claim.pre args = true) (hwl : WellAll w.params h vals args) :
    ∃ (v : Value) (script : List Int), vals = [v] ∧ script.length ≤ 63 ∧ Rep w h v (.list (script.map F.int)) := by
  have hsh : WShape.hasAll [] args [.list .int] = true := (pre_splitW hpre).1
  have hcond := (pre_splitW hpre).2
  obtain ⟨d, r, rfl, hd, hr⟩ := hasAllW_cons hsh
  have hn := hasAllW_nil hr
  subst hn
  obtain ⟨xs, rfl, hx⟩ := hasW_list hd
  have hl := pre_len hcond
  cases hwl with
  | cons hv hnil =>
    cases hnil
    cases hv with
    | @list a vs _ ha hall =>
      obtain ⟨script, e, rep⟩ := ints_well hx hall
      exact ⟨.ref a, script, rfl, by omega, a, vs, 0, rfl, ha, rep⟩

theorem post_true (args : List WData) : rr.claim.post args (.bool true) args = true :=
  @postW_of rr args (.bool true) (true == true) (by rfl) (w_eq_bool (a := .res) (b := .lit (.bool true)) rfl rfl) rfl

theorem Up.oldK {K : Frag} {s s' : Shared} (T : GenTop2 K) (wd : Wd K s) (u : Up s s') : OldK s.heap s'.heap := by
  refine ⟨fun b o e => ?_, u.there⟩
  by_cases hb : b ∈ tabs
  · obtain ⟨ps, e', _⟩ := wd.tab b hb
    obtain ⟨more, em⟩ := u.tab b hb ps e'
    rw [e] at e'
    cases e'
    refine .inr (.inl ⟨?_, rfl, ps, more, rfl, em⟩)
    have hb' : b = 96 ∨ b = 103 := by simpa [tabs] using hb
    rcases hb' with rfl | rfl
    · have ct := T.cl ⟨31, 19, 0, 0⟩ rfl rfl
      obtain ⟨vs, hl, h11, _⟩ := ct.code
      exact ⟨100, _, vs, wd.st _ _ hl ct.nt, rfl, rfl, h11⟩
    · have ct := T.cs ⟨34, 32, 0, 0⟩ rfl rfl
      obtain ⟨vs, hl, h11, _⟩ := ct.code
      exact ⟨107, _, vs, wd.st _ _ hl ct.nt, rfl, rfl, h11⟩
  · exact .inl (u.keep b o e (.inl hb))

theorem wd_of {K : Frag} (F : Facts K) {s : Shared} (X : K.In s.heap) : Wd K s :=
  ⟨fun a o e _ => X a o e, fun P hP => by
    have hb' : P = 96 ∨ P = 103 := by simpa [tabs] using hP
    rcases hb' with rfl | rfl
    · exact ⟨_, X _ _ F.t96, .inl rfl⟩
    · exact ⟨_, X _ _ F.t103, .inl rfl⟩⟩

/-- the end: all that stands below the head -/
theorem finish {w : World} {K : Frag} (F : Facts K) {s₀ s₁ : Shared} {mg : Str → Option Value} {a : Addr} (X : K.In s₁.heap) (ns : s₁.heap.Ns mainGlobals mg) (hmg : mg "law" = some (.ref a)) (hg : s₁.gens = #[])
    {args : List WData} {vals : List Value} (hpre : rr.claim.pre args = true) (hwl : WellAll w.params s₁.heap vals args) :
    wpAny (model rr.prog w) callerA (call (.ref a) vals) (fun v s' => GoodWG rr.claim (classAt s₀.heap) (ExcName.means s₀.heap) args s₁ (.ok (.ret v)) s')
      (fun e s' => GoodWG rr.claim (classAt s₀.heap) (ExcName.means s₀.heap) args s₁ (.error e) s') s₁ := by
  have wd := wd_of F X
  obtain ⟨es, n, hlk, hk⟩ := F.gok.glob
  have ns' := wd.ns (a := mainGlobals) (by decide) hlk hk
  have e := ns_same ns ns'
  have ha : a = 175 := by
    have h1 := hmg
    rw [e] at h1
    have h2 := F.me.symm.trans h1
    cases h2; rfl
  subst ha
  obtain ⟨v, script, rfl, hl, rep⟩ := args_of hpre hwl
  obtain ⟨pm, cd, doc, fk⟩ := F.fk
  refine toE (wpAny_mono (law_call F.law F.gok fk wd hl rep) (fun r s' q => ?_) fun _ _ x => x.elim)
  obtain ⟨rfl, u⟩ := q
  exact ⟨.inl ⟨_, .bool true, [], rfl, fun _ => rfl, .bool true, post_true args, fun _ => ⟨List.nodup_nil, fun a ha => by cases ha⟩⟩, u.oldK F.law.gen wd, u.os, u.gens (by rw [hg]; intro y hy; simp at hy)⟩
theorem finishP {w : World} {K : Params → Frag} {s₀ s₁ : Shared} {mg : Str → Option Value} {a : Addr} (X : (K w.params).In s₁.heap) (ns : s₁.heap.Ns mainGlobals mg) (hmg : mg "law" = some (.ref a)) (hg : s₁.gens = #[])
    {args : List WData} {vals : List Value} (hpre : rr.claim.pre args = true) (hwl : WellAll w.params s₁.heap vals args) (F : ∀ P, Facts (K P)) :
    wpAny (model rr.prog w) callerA (call (.ref a) vals) (fun v s' => GoodWG rr.claim (classAt s₀.heap) (ExcName.means s₀.heap) args s₁ (.ok (.ret v)) s')
      (fun e s' => GoodWG rr.claim (classAt s₀.heap) (ExcName.means s₀.heap) args s₁ (.error e) s') s₁ := finish (F w.params) X ns hmg hg hpre hwl
theorem mkFacts {K : Frag} (b1 : GOk K) (b2 : PileTop K) (b3 : MethTop K) (b4 : NewTop K) (b5 : InitTop K) (b6 : ReTop K) (b7 : GenTop2 K)
    (b8 : PileTop K → MethTop K → NewTop K → InitTop K → ReTop K → GenTop2 K → LawTop K) (b9 : GOk K → LawTop K → Facts K) : Facts K := b9 b1 (b8 b2 b3 b4 b5 b6 b7)
end Mine
end

set_option maxRecDepth 100000 in
set_option maxHeartbeats 8000000 in
theorem PySem.Challenge.cw_xe0014_01_holds : PySem.Challenge.rw_xe0014_01.Holds := by
  w_on
  o_law
  x_head
  (case hw => w_witness2)
  intro w s₀ s₁ mg mb G Y a o pm cd doc dV kV ho hod hcd hdf hmg hg args vals as hpre hlay hrd hwl hlo
  refine Mine.finishP (kIn_of Y) G.T.g hmg hg hpre hwl ?_
  clear hpre hlay hrd hwl hlo hmg hg hdf hcd hod ho Y G
  intro P
  refine Mine.mkFacts ?_ ?_ ?_ ?_ ?_ ?_ ?_ ?_ ?_
  · exact ⟨⟨_, _, rfl, Mine.keys_of (by kernel_rfl)⟩, ⟨_, _, rfl, Mine.keys_of (by kernel_rfl)⟩, ⟨_, _, rfl, Mine.keys_of (by kernel_rfl), by kernel_rfl, by kernel_rfl⟩⟩
  · exact {
      cls := ⟨_, rfl, rfl, rfl⟩
      ga := by kernel_rfl
      gattr := by kernel_rfl
      isList := by kernel_rfl
      append := by kernel_rfl
      getitem := by kernel_rfl
      setitem := by kernel_rfl
      iter := by kernel_rfl
      noDeque := by kernel_rfl
      setattr := by kernel_rfl
      isObj := by kernel_rfl
      taker := by kernel_rfl
      iniAttr := by kernel_rfl
      d64 := ⟨_, _, rfl⟩
      d80 := ⟨_, _, rfl⟩
      d109 := ⟨_, rfl⟩ }
  · exact {
      push := by kernel_rfl
      pushF := by kernel_rfl
      pushK := ⟨_, _, _, by decide, ⟨_, _, _, rfl⟩, ⟨_, _, _, _, rfl, by decide, rfl, rfl, rfl⟩, rfl, rfl, rfl, rfl, rfl, rfl, rfl, by decide⟩
      popf := by kernel_rfl
      popfF := by kernel_rfl
      popfK := ⟨_, _, _, by decide, ⟨_, _, _, rfl⟩, ⟨_, _, _, _, rfl, by decide, rfl, rfl, rfl⟩, rfl, rfl, rfl, rfl, rfl, rfl, rfl, by decide⟩
      reset := by kernel_rfl
      resetF := by kernel_rfl
      resetK := ⟨_, _, _, by decide, ⟨_, _, _, rfl⟩, ⟨_, _, _, _, rfl, by decide, rfl, rfl, rfl⟩, rfl, rfl, rfl, rfl, rfl, rfl, rfl, by decide⟩
      len := by kernel_rfl
      lenF := by kernel_rfl
      lenK := ⟨_, _, by decide, ⟨_, _, _, rfl⟩, ⟨_, _, _, _, rfl, by decide, rfl, rfl, rfl⟩, rfl, rfl, rfl, rfl, rfl, rfl, rfl, by decide⟩
      str := by kernel_rfl
      strF := by kernel_rfl
      strK := ⟨_, _, by decide, ⟨_, _, _, rfl⟩, ⟨_, _, _, _, rfl, by decide, rfl, rfl, rfl⟩, rfl, rfl, rfl, rfl, rfl, rfl, rfl, by decide⟩ }
  · exact {
      obj := ⟨_, _, rfl, rfl, rfl, rfl, rfl, rfl⟩
      init := by kernel_rfl
      initF := by kernel_rfl
      call := by kernel_rfl
      typ := by kernel_rfl
      keep := by kernel_rfl
      name := by kernel_rfl }
  · exact {
      fn := ⟨_, _, _, _, _, _, rfl⟩
      code := ⟨_, _, _, _, rfl, rfl, rfl, rfl⟩
      cell := ⟨_, _, _, rfl⟩
      opq := by kernel_rfl
      gsup := by kernel_rfl
      bsup := by kernel_rfl }
  · exact {
      n1 := by kernel_rfl
      n2 := by kernel_rfl
      nc := ⟨_, by rfl⟩
      p1 := ⟨_, rfl, rfl, rfl, rfl⟩
      c1 := ⟨_, _, rfl, by kernel_rfl⟩
      p2 := ⟨_, rfl, rfl, rfl, rfl⟩
      c2 := ⟨_, _, rfl, by kernel_rfl⟩ }
  · exact {
      bm := ⟨_, rfl, by decide, by decide, rfl⟩
      cl := fun pos h1 h2 => Mine.tabFit (.inl ⟨rfl, h1, h2⟩) ⟨_, rfl, rfl, ⟨_, _, rfl⟩, ⟨_, _, rfl⟩, ⟨_, rfl⟩, ⟨_, _, rfl⟩⟩ (by decide) (by decide)
      cs := fun pos h1 h2 => Mine.tabFit (.inr ⟨rfl, h1, h2⟩) ⟨_, rfl, rfl, ⟨_, _, rfl⟩, ⟨_, _, rfl⟩, ⟨_, rfl⟩, ⟨_, _, rfl⟩⟩ (by decide) (by decide)
      gsum := by kernel_rfl
      glen := by kernel_rfl
      gemp := ⟨_, rfl⟩ }
  · intro c2 c3 c4 c5 c6 c7; exact {
      gr := by kernel_rfl
      glen := by kernel_rfl
      gsum := by kernel_rfl
      gzip := by kernel_rfl
      gstr := by kernel_rfl
      gquote := by kernel_rfl
      quote := ⟨_, _, _, by decide, ⟨_, _, _, rfl⟩, ⟨_, _, _, _, rfl, by decide, rfl, rfl, rfl⟩, rfl, rfl, rfl, rfl, rfl, rfl, rfl, by decide⟩
      ghtml := by kernel_rfl
      html := ⟨_, _, _, by decide, ⟨_, _, _, rfl⟩, ⟨_, _, _, _, rfl, by decide, rfl, rfl, rfl⟩, rfl, rfl, rfl, rfl, rfl, rfl, rfl, by decide⟩
      gcdata := by kernel_rfl
      cdata := ⟨_, _, _, by decide, ⟨_, _, _, rfl⟩, ⟨_, _, _, _, rfl, by decide, rfl, rfl, rfl⟩, rfl, rfl, rfl, rfl, rfl, rfl, rfl, by decide⟩
      ggrown := by kernel_rfl
      grown := ⟨_, _, _, by decide, ⟨_, _, _, rfl⟩, ⟨_, _, _, _, rfl, by decide, rfl, rfl, rfl⟩, rfl, rfl, rfl, rfl, rfl, rfl, rfl, by decide⟩
      gmended := by kernel_rfl
      mended := ⟨_, _, _, by decide, ⟨_, _, _, rfl⟩, ⟨_, _, _, _, rfl, by decide, rfl, rfl, rfl⟩, rfl, rfl, rfl, rfl, rfl, rfl, rfl, by decide⟩
      re := c6
      pile := c2
      meth := c3
      gen := c7
      new := c4
      init := c5 }
  · intro c1 c8; exact {
      gok := c1
      law := c8
      fk := ⟨_, _, _, by decide, ⟨_, _, _, rfl⟩, ⟨_, _, _, _, rfl, by decide, rfl, rfl, rfl⟩, rfl, rfl, rfl, rfl, rfl, rfl, rfl, by decide⟩
      t96 := by rfl
      t103 := by rfl
      me := by kernel_rfl }
